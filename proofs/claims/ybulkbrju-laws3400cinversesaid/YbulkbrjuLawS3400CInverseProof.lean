/-
  'interlace.LawS3400CInverse' returns true at every int. The plain side: YbulkbrjuMix. The row's step: the seat's own shell.
-/
import Derived.Test.YbulkbrjuRows
import Derived.Test.YbulkbrjuMix
import Derived.WalkKit
import Derived.ProofKit
import Derived.OpenShut
import Derived.ShutString
import Derived.Below
namespace Go.Proofs.Ybulkbrju.lawS3400CInverse
open Go.ChangeShapes Go.WideShapes Go.ChangeAt Go.RowKit
open Go.ChangeMaps (open_string shut_string)
set_option linter.unusedVariables false      -- a walk need not use every 'w<i>' (that an integer argument fits its kind)

theorem own : ownKnob Yba.prog.godebug = none := by kernel_rfl

/-! ### THE WALK -/
theorem ret_true {b : Bool} (h : b = true) : Ending.returned (.bool b) = .returned (.bool true) := by rw [h]

theorem bitHash_any (i : Int) (h0 : -9223372036854775808 ≤ i) (h1 : i ≤ 9223372036854775807) (w : World) :
    Calls Yba.prog 16 #[.int .i64 i] w fun e w' => e = .returned (.int .u64 (J (mix (BitVec.ofInt 64 i)))) ∧ w' = w := by
  rw [← mixZ_eq]
  go_enter Yba.func16, Yba.ntmps16
  go_wp2
  go_ret
  exact ⟨rfl, rfl⟩

theorem cinv_any (m : Int) (w : World) :
    Calls Yba.prog 17 #[.int .u64 m] w fun e w' => e = .returned (.int .u64 (newt m 5)) ∧ w' = w := by
  go_enter Yba.func17, Yba.ntmps17
  go_wp2
  go_loop [3, 4] (fun t i => ∃ k : Nat, k ≤ 5 ∧ i = .int .i64 k ∧ t = .int .u64 (newt m k)) (fun _ i => 5 - (intOf i).toNat)
  case atStart => exact ⟨0, by omega, rfl, rfl⟩
  case round =>
    obtain ⟨k, hk, rfl, rfl⟩ := hrel
    by_cases hlt : k < 5
    · go_wp2
      go_round
      case rel => exact ⟨k + 1, by omega, by go_num, rfl⟩
      case measure => simp [intOf]; omega
    · obtain rfl : k = 5 := by omega
      go_wp2
      go_ret
      exact ⟨rfl, rfl⟩

theorem walk (a0 : Int) (w0 : (Lit.int .i64 a0).wf = true) (w : World) :
    Calls Yba.prog 7 #[.int .i64 a0] w fun e w' => e = .returned (.bool true) ∧ Grown w w' := by
  obtain ⟨h0, h1⟩ := bounds_i64 w0
  clear w0
  have hH := bitHash_any a0 h0 h1 w
  generalize hm : mix (BitVec.ofInt 64 a0) = m at hH
  generalize hj : J m = h at hH
  have hb : 0 ≤ h ∧ h < 18446744073709551616 := by rw [← hj]; unfold J; omega
  obtain ⟨b0, b1⟩ := hb
  have HM : Hid (mix (BitVec.ofInt 64 a0) = m) := hm
  have HJ : Hid (J m = h) := hj
  clear hm hj
  go_enter Yba.func7, Yba.ntmps7
  go_wp2_with (first
    | (go_at_call 16; refine hH.mono ?_; rintro e w' ⟨rfl, rfl⟩)
    | (go_at_call 17; refine (cinv_any _ _).mono ?_; rintro e w' ⟨rfl, rfl⟩))
  go_ret
  exact ⟨ret_true (back_true a0 h m HM.out HJ.out), Grown.refl _⟩

/-! ### THE ROW's STEP: WRITTEN OUT: LEAVE IT -/
set_option maxRecDepth 100000 in
theorem lifted (os : Os) (started : os.Started) (H : Type) (enc : TypeId × Value → H) :
    ReturnsInHanded {} Yba.checked os 7 .any (Rows.lawS3400CInverseSpec.pre6 enc Yba.prog Yba.f7 Rows.lawS3400CInverseRow.domain false) (Rows.lawS3400CInverseSpec.post enc Yba.prog Yba.f7 false true false false) := by
  refine returnsInHanded_of_change (C := Yba.checked) own started (by kernel_rfl) Yba.func7
    (ChangeSpec.witness6 (enc := enc) (C := Yba.checked) false ⟨#[], #[.int .i64 0], []⟩ 8 (by kernel_rfl) (by kernel_rfl) (by kernel_rfl) (by kernel_rfl)) ?_
  intro W base args ds gs before hval0 hW hcnd _
  have hval : ∀ (j : Nat) t v, Yba.f7.params[j]? = some t → args[j]? = some v → Value.okWide Yba.prog W .any base t v := hval0
  have hW' := hW
  obtain ⟨p, q, hA0, hV, rfl, hfz, hnd⟩ := hW
  have hA : DataW.TrodAll enc Yba.prog W 0 (fun _ => true) true Yba.f7.params.toList args.toList ds p := hA0
  rw [Yba.params7] at hA hval
  obtain ⟨v0, vs0, d0, ds0, p0, q0, hargs, rfl, rfl, h0, r0⟩ := trodAll_cons hA
  obtain ⟨rfl, rfl, rfl⟩ := trodAll_nil r0
  obtain rfl : args = #[v0] := by cases args; simp_all
  obtain ⟨rfl, rfl⟩ := trodVars_none hV
  obtain ⟨a0, rfl, rfl, rfl, w0⟩ := open_int Yba.underlying3 (hval 0 3 v0 rfl rfl) h0
  clear hA0 hval0
  simp only [List.append_nil] at hW'
  refine (walk a0 w0 W).mono fun e W' ⟨he, hg⟩ => ?_
  subst he
  exact ⟨_, rfl, post_of_same (pa := []) (pv := []) hW' (fun _ _ _ => (trodAll_cons_mk (shut_bool Yba.underlying4 _) trodAll_mk0)) (fun sp _ => (trodAll_cons_mk (shut_int Yba.underlying3 w0) trodAll_mk0)) (fun _ _ => rfl) rfl
    (hg.frame _) hg.2.1 (ok_one (by kernel_rfl) rfl (okWide_bool_mk Yba.underlying4 _))⟩

theorem over : Rows.lawS3400CInverseRow.holds Yba.pinned (OpenSpec.ofChange Rows.lawS3400CInverseSpec) :=
  OpenClaim.holds_of_wide 7 Yba.f7 rfl rfl rfl rfl rfl rfl rfl ⟨rfl, rfl, rfl, rfl, rfl⟩ rfl rfl rfl rfl rfl (by kernel_rfl) Yba.func7 (by kernel_rfl)
    (of_decide_eq_true (by kernel_rfl)) (by unfold Func.isWrapper; first | (rw [if_pos (by decide +kernel)]; kernel_rfl) | (rw [if_neg (by decide +kernel)]; exact ⟨rfl, rfl⟩))
    (fun os started H enc _ => lifted os started H enc)

/-- ████ THE STATEMENT ████ -/
theorem proved : Rows.LawS3400CInverseSaid :=
  over
#print axioms proved
end Go.Proofs.Ybulkbrju.lawS3400CInverse
