/-
  'Rows.FnAbsBoundZeroAndSymmetrySaid' proved. The frame is the seat's shell (written by proof-skeleton.mjs for this function); the walk is by the contracts of the text Qxb6601744aAbs.
-/
import Derived.Test.Qxb6601744aRows
import Derived.Test.Qxb6601744aAbs
import Derived.WalkKit
import Derived.ProofKit
import Derived.OpenShut
import Derived.ShutString
namespace Go.Proofs.Qxb6601744a.fnAbsBoundZeroAndSymmetry
open Go.ChangeShapes Go.WideShapes Go.ChangeAt Go.RowKit
open Go.ChangeMaps (open_string shut_string)
set_option linter.unusedVariables false      -- a walk need not use every 'w<i>' (that an integer argument fits its kind)

theorem own : ownKnob Try.prog.godebug = none := by kernel_rfl

/-! ### One theorem a way through -/
theorem way_pos (c : Int) (h0 : 0 < c) (h1 : c ≤ 9223372036854775807) (w : World) :
    Calls Try.prog 4 #[.int .i64 c] w fun e w' => e = .returned (.bool true) ∧ Grown w w' := by
  have f1 : (c == 9223372036854775808) = false := beq_false_of_ne (by omega)
  have f2 : (c == -9223372036854775808) = false := beq_false_of_ne (by omega)
  have f3 : (c == 0) = false := beq_false_of_ne (by omega)
  have en : Hid (- -c = c) := Int.neg_neg c
  go_enter Try.func4, Try.ntmps4
  go_wp2_with fail
  refine (Abs.zzabs_pos c (by omega) h1 _).mono ?_
  rintro e w' ⟨rfl, rfl⟩
  go_wp2_with fail
  refine (Abs.zzabs_neg (-c) (by omega) (by omega) _).mono ?_
  rintro e w' ⟨rfl, rfl⟩
  rw [en.out]
  go_wp2_with fail
  refine (Abs.zzabs_pos (c - 1) (by omega) (by omega) _).mono ?_
  rintro e w' ⟨rfl, rfl⟩
  go_wp2
  go_ret
  exact ⟨rfl, Grown.refl _⟩

theorem way_zero (w : World) :
    Calls Try.prog 4 #[.int .i64 0] w fun e w' => e = .returned (.bool true) ∧ Grown w w' := by
  go_enter Try.func4, Try.ntmps4
  go_wp2_with fail
  refine (Abs.zzabs_pos 0 (by omega) (by omega) _).mono ?_
  rintro e w' ⟨rfl, rfl⟩
  go_wp2_with fail
  refine (Abs.zzabs_pos 0 (by omega) (by omega) _).mono ?_
  rintro e w' ⟨rfl, rfl⟩
  go_wp2
  go_ret
  exact ⟨rfl, Grown.refl _⟩

theorem way_neg (c : Int) (h0 : c < -1) (h1 : -9223372036854775808 < c) (w : World) :
    Calls Try.prog 4 #[.int .i64 c] w fun e w' => e = .returned (.bool true) ∧ Grown w w' := by
  have f1 : (-c == 9223372036854775808) = false := beq_false_of_ne (by omega)
  have f2 : (c == -9223372036854775808) = false := beq_false_of_ne (by omega)
  have f3 : (c == 0) = false := beq_false_of_ne (by omega)
  have f4 : (-c == 0) = false := beq_false_of_ne (by omega)
  have en : Hid (-(c + 1) = -c - 1) := by show _ = _; omega
  go_enter Try.func4, Try.ntmps4
  go_wp2_with fail
  refine (Abs.zzabs_neg c (by omega) (by omega) _).mono ?_
  rintro e w' ⟨rfl, rfl⟩
  go_wp2_with fail
  refine (Abs.zzabs_pos (-c) (by omega) (by omega) _).mono ?_
  rintro e w' ⟨rfl, rfl⟩
  go_wp2_with fail
  refine (Abs.zzabs_neg (c + 1) (by omega) (by omega) _).mono ?_
  rintro e w' ⟨rfl, rfl⟩
  rw [en.out]
  go_wp2
  go_ret
  exact ⟨rfl, Grown.refl _⟩

theorem way_one (w : World) :
    Calls Try.prog 4 #[.int .i64 (-1)] w fun e w' => e = .returned (.bool true) ∧ Grown w w' := by
  go_enter Try.func4, Try.ntmps4
  go_wp2_with fail
  refine (Abs.zzabs_neg (-1) (by omega) (by omega) _).mono ?_
  rintro e w' ⟨rfl, rfl⟩
  go_wp2_with fail
  refine (Abs.zzabs_pos 1 (by omega) (by omega) _).mono ?_
  rintro e w' ⟨rfl, rfl⟩
  go_wp2_with fail
  refine (Abs.zzabs_pos 0 (by omega) (by omega) _).mono ?_
  rintro e w' ⟨rfl, rfl⟩
  go_wp2
  go_ret
  exact ⟨rfl, Grown.refl _⟩

theorem way_min (c : Int) (h0 : c ≤ -9223372036854775808) (h1 : -9223372036854775808 ≤ c) (w : World) :
    Calls Try.prog 4 #[.int .i64 c] w fun e w' => e = .returned (.bool true) ∧ Grown w w' := by
  have f1 : (-c == 9223372036854775808) = true := beq_iff_eq.2 (by omega)
  have f2 : (c == -9223372036854775808) = true := beq_iff_eq.2 (by omega)
  have f3 : (c == 0) = false := beq_false_of_ne (by omega)
  have f4 : (-c == 0) = false := beq_false_of_ne (by omega)
  have en : Hid (-(c + 1) = -c - 1) := by show _ = _; omega
  have ew : Hid (wrap64 (-c) = c) := by show _ = _; unfold wrap64; omega
  go_enter Try.func4, Try.ntmps4
  go_wp2_with fail
  refine (Abs.zzabs_neg c (by omega) (by omega) _).mono ?_
  rintro e w' ⟨rfl, rfl⟩
  go_wp2_with fail
  rw [ew.out]
  refine (Abs.zzabs_neg c (by omega) (by omega) _).mono ?_
  rintro e w' ⟨rfl, rfl⟩
  go_wp2_with fail
  refine (Abs.zzabs_neg (c + 1) (by omega) (by omega) _).mono ?_
  rintro e w' ⟨rfl, rfl⟩
  rw [en.out]
  go_wp2
  go_ret
  exact ⟨rfl, Grown.refl _⟩

/-! ### STEP 1: THE WALK: the Go text returns true. 'Grown w w'': the world has at most new blocks (Derived/RowKit3.lean). Part the cases AHEAD of 'go_enter' where a test parts the walk; take each callee by a contract of your own. -/
theorem walk (a0 : Int) (w0 : (Lit.int .i64 a0).wf = true) (w : World) :
    Calls Try.prog 4 #[.int .i64 a0] w fun e w' => e = .returned (.bool true) ∧ Grown w w' := by
  have hb := bounds_i64 w0
  by_cases c1 : 0 < a0
  · exact way_pos a0 c1 hb.2 w
  by_cases c2 : a0 = 0
  · subst c2
    exact way_zero w
  by_cases c3 : a0 = -1
  · subst c3
    exact way_one w
  by_cases c4 : a0 ≤ -9223372036854775808
  · exact way_min a0 c4 hb.1 w
  · exact way_neg a0 (by omega) (by omega) w

/-! ### THE ROW's STEP: WRITTEN OUT: LEAVE IT -/
set_option maxRecDepth 100000 in
theorem lifted (os : Os) (started : os.Started) (H : Type) (enc : TypeId × Value → H) :
    ReturnsInHanded {} Try.checked os 4 .any (Rows.fnAbsBoundZeroAndSymmetrySpec.pre6 enc Try.prog Try.f4 Rows.fnAbsBoundZeroAndSymmetryRow.domain false) (Rows.fnAbsBoundZeroAndSymmetrySpec.post enc Try.prog Try.f4 false true false false) := by
  refine returnsInHanded_of_change (C := Try.checked) own started (by kernel_rfl) Try.func4
    (ChangeSpec.witness6 (enc := enc) (C := Try.checked) false ⟨#[], #[.int .i64 0], []⟩ 8 (by kernel_rfl) (by kernel_rfl) (by kernel_rfl) (by kernel_rfl)) ?_
  intro W base args ds gs before hval0 hW hcnd _
  have hval : ∀ (j : Nat) t v, Try.f4.params[j]? = some t → args[j]? = some v → Value.okWide Try.prog W .any base t v := hval0
  have hW' := hW
  obtain ⟨p, q, hA0, hV, rfl, hfz, hnd⟩ := hW
  have hA : DataW.TrodAll enc Try.prog W 0 (fun _ => true) true Try.f4.params.toList args.toList ds p := hA0
  rw [Try.params4] at hA hval
  obtain ⟨v0, vs0, d0, ds0, p0, q0, hargs, rfl, rfl, h0, r0⟩ := trodAll_cons hA
  obtain ⟨rfl, rfl, rfl⟩ := trodAll_nil r0
  obtain rfl : args = #[v0] := by cases args; simp_all
  obtain ⟨rfl, rfl⟩ := trodVars_none hV
  obtain ⟨a0, rfl, rfl, rfl, w0⟩ := open_int Try.underlying2 (hval 0 2 v0 rfl rfl) h0
  clear hA0 hval0
  simp only [List.append_nil] at hW'
  refine (walk a0 w0 W).mono fun e W' ⟨he, hg⟩ => ?_
  subst he
  exact ⟨_, rfl, post_of_same (pa := []) (pv := []) hW' (fun _ _ _ => (trodAll_cons_mk (shut_bool Try.underlying4 _) trodAll_mk0)) (fun sp _ => (trodAll_cons_mk (shut_int Try.underlying2 w0) trodAll_mk0)) (fun _ _ => rfl) rfl
    (hg.frame _) hg.2.1 (ok_one (by kernel_rfl) rfl (okWide_bool_mk Try.underlying4 _))⟩

theorem over : Rows.fnAbsBoundZeroAndSymmetryRow.holds Try.pinned (OpenSpec.ofChange Rows.fnAbsBoundZeroAndSymmetrySpec) :=
  OpenClaim.holds_of_wide 4 Try.f4 rfl rfl rfl rfl rfl rfl rfl ⟨rfl, rfl, rfl, rfl, rfl⟩ rfl rfl rfl rfl rfl (by kernel_rfl) Try.func4 (by kernel_rfl)
    (of_decide_eq_true (by kernel_rfl)) (by unfold Func.isWrapper; first | (rw [if_pos (by decide +kernel)]; kernel_rfl) | (rw [if_neg (by decide +kernel)]; exact ⟨rfl, rfl⟩))
    (fun os started H enc _ => lifted os started H enc)

theorem proved : Rows.FnAbsBoundZeroAndSymmetrySaid :=
  over
end Go.Proofs.Qxb6601744a.fnAbsBoundZeroAndSymmetry

namespace Go.Proofs.Qxb6601744a
theorem absBound_holds : Rows.FnAbsBoundZeroAndSymmetrySaid := fnAbsBoundZeroAndSymmetry.proved
end Go.Proofs.Qxb6601744a
