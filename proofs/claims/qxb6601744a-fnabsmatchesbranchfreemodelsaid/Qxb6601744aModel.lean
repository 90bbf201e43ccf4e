/-
  'Rows.FnAbsMatchesBranchFreeModelSaid' proved. The frame is the seat's shell (written by proof-skeleton.mjs for this function); the walk is by the contracts of the text Qxb6601744aAbs.
-/
import Derived.Test.Qxb6601744aRows
import Derived.Test.Qxb6601744aAbs
import Derived.WalkKit
import Derived.ProofKit
import Derived.OpenShut
import Derived.ShutString
namespace Go.Proofs.Qxb6601744a.fnAbsMatchesBranchFreeModel
open Go.ChangeShapes Go.WideShapes Go.ChangeAt Go.RowKit
open Go.ChangeMaps (open_string shut_string)
set_option linter.unusedVariables false      -- a walk need not use every 'w<i>' (that an integer argument fits its kind)

theorem own : ownKnob Try.prog.godebug = none := by kernel_rfl

/-! ### THE PLAIN LAW: no Go in sight -/
theorem xor_ones (a : Nat) (h : a < 18446744073709551616) : a ^^^ 18446744073709551615 = 18446744073709551615 - a := by
  have h1 : (BitVec.ofNat 64 a ^^^ BitVec.allOnes 64).toNat = (~~~ (BitVec.ofNat 64 a)).toNat := by rw [BitVec.xor_allOnes]
  rw [BitVec.toNat_xor, BitVec.toNat_not, BitVec.toNat_allOnes, BitVec.toNat_ofNat, Nat.mod_eq_of_lt (by simpa using h)] at h1
  simpa using h1

theorem model_pos (c : Int) (h0 : 0 ≤ c) (h1 : c ≤ 9223372036854775807) : IntKind.u64.wrap (bits BinOp.xor IntKind.u64 c (c / 9223372036854775808) - c / 9223372036854775808) = c := by
  have e : c / 9223372036854775808 = 0 := by omega
  rw [e, u64_xor c 0 h0 (by omega) (by omega) (by omega), IntKind.wrap_u64]
  simp only [Int.toNat_zero, Nat.xor_zero, Int.sub_zero]
  omega

theorem model_neg (c : Int) (h0 : c < 0) (h1 : -9223372036854775808 ≤ c) :
    IntKind.u64.wrap (bits BinOp.xor IntKind.u64 (IntKind.u64.wrap c) (IntKind.u64.wrap (c / 9223372036854775808)) - IntKind.u64.wrap (c / 9223372036854775808)) = -c := by
  have e : c / 9223372036854775808 = -1 := by omega
  have e1 : IntKind.u64.wrap (-1) = 18446744073709551615 := by rw [IntKind.wrap_u64]; omega
  have e2 : IntKind.u64.wrap c = c + 18446744073709551616 := by rw [IntKind.wrap_u64]; omega
  have hx := xor_ones (c + 18446744073709551616).toNat (by omega)
  have e3 : (18446744073709551615 : Int).toNat = 18446744073709551615 := rfl
  rw [e, e1, e2, u64_xor _ _ (by omega) (by omega) (by omega) (by omega), e3, hx, IntKind.wrap_u64]
  omega

theorem way_pos (c : Int) (h0 : 0 ≤ c) (h1 : c ≤ 9223372036854775807) (w : World) :
    Calls Try.prog 3 #[.int .i64 c] w fun e w' => e = .returned (.bool true) ∧ Grown w w' := by
  have E : Hid (IntKind.u64.wrap (bits BinOp.xor IntKind.u64 c (c / 9223372036854775808) - c / 9223372036854775808) = c) := model_pos c h0 h1
  go_enter Try.func3, Try.ntmps3
  go_wp2_with fail
  refine (Abs.zzabs_pos c h0 h1 _).mono ?_
  rintro e w' ⟨rfl, rfl⟩
  rw [E.out]
  go_wp2
  go_ret
  exact ⟨rfl, Grown.refl _⟩

theorem way_neg (c : Int) (h0 : c < 0) (h1 : -9223372036854775808 ≤ c) (w : World) :
    Calls Try.prog 3 #[.int .i64 c] w fun e w' => e = .returned (.bool true) ∧ Grown w w' := by
  have E : Hid (IntKind.u64.wrap (bits BinOp.xor IntKind.u64 (IntKind.u64.wrap c) (IntKind.u64.wrap (c / 9223372036854775808)) - IntKind.u64.wrap (c / 9223372036854775808)) = -c) := model_neg c h0 h1
  go_enter Try.func3, Try.ntmps3
  go_wp2_with fail
  refine (Abs.zzabs_neg c h0 h1 _).mono ?_
  rintro e w' ⟨rfl, rfl⟩
  rw [E.out]
  go_wp2
  go_ret
  exact ⟨rfl, Grown.refl _⟩

/-! ### STEP 1: THE WALK: the Go text returns true. 'Grown w w'': the world has at most new blocks (Derived/RowKit3.lean). Part the cases AHEAD of 'go_enter' where a test parts the walk; take each callee by a contract of your own. -/
theorem walk (a0 : Int) (w0 : (Lit.int .i64 a0).wf = true) (w : World) :
    Calls Try.prog 3 #[.int .i64 a0] w fun e w' => e = .returned (.bool true) ∧ Grown w w' := by
  have hb := bounds_i64 w0
  by_cases h : a0 < 0
  · exact way_neg a0 h hb.1 w
  · exact way_pos a0 (by omega) hb.2 w

/-! ### THE ROW's STEP: WRITTEN OUT: LEAVE IT -/
set_option maxRecDepth 100000 in
theorem lifted (os : Os) (started : os.Started) (H : Type) (enc : TypeId × Value → H) :
    ReturnsInHanded {} Try.checked os 3 .any (Rows.fnAbsMatchesBranchFreeModelSpec.pre6 enc Try.prog Try.f3 Rows.fnAbsMatchesBranchFreeModelRow.domain false) (Rows.fnAbsMatchesBranchFreeModelSpec.post enc Try.prog Try.f3 false true false false) := by
  refine returnsInHanded_of_change (C := Try.checked) own started (by kernel_rfl) Try.func3
    (ChangeSpec.witness6 (enc := enc) (C := Try.checked) false ⟨#[], #[.int .i64 0], []⟩ 8 (by kernel_rfl) (by kernel_rfl) (by kernel_rfl) (by kernel_rfl)) ?_
  intro W base args ds gs before hval0 hW hcnd _
  have hval : ∀ (j : Nat) t v, Try.f3.params[j]? = some t → args[j]? = some v → Value.okWide Try.prog W .any base t v := hval0
  have hW' := hW
  obtain ⟨p, q, hA0, hV, rfl, hfz, hnd⟩ := hW
  have hA : DataW.TrodAll enc Try.prog W 0 (fun _ => true) true Try.f3.params.toList args.toList ds p := hA0
  rw [Try.params3] at hA hval
  obtain ⟨v0, vs0, d0, ds0, p0, q0, hargs, rfl, rfl, h0, r0⟩ := trodAll_cons hA
  obtain ⟨rfl, rfl, rfl⟩ := trodAll_nil r0
  obtain rfl : args = #[v0] := by cases args; simp_all
  obtain ⟨rfl, rfl⟩ := trodVars_none hV
  obtain ⟨a0, rfl, rfl, rfl, w0⟩ := open_int Try.underlying2 (hval 0 2 v0 rfl rfl) h0
  clear hA0 hval0
  simp only [List.append_nil] at hW'
  refine (walk a0 w0 W).mono fun e W' ⟨he, hg⟩ => ?_
  subst he
  exact ⟨_, rfl, post_of_same (pa := []) (pv := []) hW' (fun _ _ _ => (trodAll_cons_mk (shut_bool Try.underlying4 _) trodAll_mk0)) (fun sp _ => (trodAll_cons_mk (shut_int Try.underlying2 w0) trodAll_mk0)) (fun _ _ => rfl) rfl
    (hg.frame _) hg.2.1 (ok_one (by kernel_rfl) rfl (okWide_bool_mk Try.underlying4 _))⟩

theorem over : Rows.fnAbsMatchesBranchFreeModelRow.holds Try.pinned (OpenSpec.ofChange Rows.fnAbsMatchesBranchFreeModelSpec) :=
  OpenClaim.holds_of_wide 3 Try.f3 rfl rfl rfl rfl rfl rfl rfl ⟨rfl, rfl, rfl, rfl, rfl⟩ rfl rfl rfl rfl rfl (by kernel_rfl) Try.func3 (by kernel_rfl)
    (of_decide_eq_true (by kernel_rfl)) (by unfold Func.isWrapper; first | (rw [if_pos (by decide +kernel)]; kernel_rfl) | (rw [if_neg (by decide +kernel)]; exact ⟨rfl, rfl⟩))
    (fun os started H enc _ => lifted os started H enc)

theorem proved : Rows.FnAbsMatchesBranchFreeModelSaid :=
  over
end Go.Proofs.Qxb6601744a.fnAbsMatchesBranchFreeModel

namespace Go.Proofs.Qxb6601744a
theorem absModel_holds : Rows.FnAbsMatchesBranchFreeModelSaid := fnAbsMatchesBranchFreeModel.proved
end Go.Proofs.Qxb6601744a
