/-
  'Rows.FnSignedAbsRoundTripSaid' proved. The frame is the seat's shell (written by proof-skeleton.mjs for this function); the walk is by the contracts of the text Qxb6601744aAbs.
-/
import Derived.Test.Qxb6601744aRows
import Derived.Test.Qxb6601744aAbs
import Derived.WalkKit
import Derived.ProofKit
import Derived.OpenShut
import Derived.ShutString
namespace Go.Proofs.Qxb6601744a.fnSignedAbsRoundTrip
open Go.ChangeShapes Go.WideShapes Go.ChangeAt Go.RowKit
open Go.ChangeMaps (open_string shut_string)
set_option linter.unusedVariables false      -- a walk need not use every 'w<i>' (that an integer argument fits its kind)

theorem own : ownKnob Try.prog.godebug = none := by kernel_rfl

/-! ### One theorem a way through -/
theorem way_pos (c : Int) (h0 : 0 ≤ c) (h1 : c ≤ 9223372036854775807) (w : World) :
    Calls Try.prog 6 #[.int .i64 c] w fun e w' => e = .returned (.bool true) ∧ Grown w w' := by
  have d : decide (c < 0) = false := decide_eq_false (by omega)
  go_enter Try.func6, Try.ntmps6
  go_wp2_with fail
  refine (Abs.zzabs_pos c h0 h1 _).mono ?_
  rintro e w' ⟨rfl, rfl⟩
  go_wp2_with fail
  refine (Abs.zzsigned_pos c h0 h1 _).mono ?_
  rintro e w' ⟨rfl, rfl⟩
  go_wp2
  go_ret
  exact ⟨rfl, Grown.refl _⟩

theorem way_neg (c : Int) (h0 : c < 0) (h1 : -9223372036854775808 ≤ c) (w : World) :
    Calls Try.prog 6 #[.int .i64 c] w fun e w' => e = .returned (.bool true) ∧ Grown w w' := by
  have d : decide (c < 0) = true := decide_eq_true h0
  have en : Hid (- -c = c) := Int.neg_neg c
  go_enter Try.func6, Try.ntmps6
  go_wp2_with fail
  refine (Abs.zzabs_neg c h0 h1 _).mono ?_
  rintro e w' ⟨rfl, rfl⟩
  go_wp2_with fail
  refine (Abs.zzsigned_neg (-c) (by omega) (by omega) _).mono ?_
  rintro e w' ⟨rfl, rfl⟩
  rw [en.out]
  go_wp2
  go_ret
  exact ⟨rfl, Grown.refl _⟩

/-! ### STEP 1: THE WALK: the Go text returns true. 'Grown w w'': the world has at most new blocks (Derived/RowKit3.lean). Part the cases AHEAD of 'go_enter' where a test parts the walk; take each callee by a contract of your own. -/
theorem walk (a0 : Int) (w0 : (Lit.int .i64 a0).wf = true) (w : World) :
    Calls Try.prog 6 #[.int .i64 a0] w fun e w' => e = .returned (.bool true) ∧ Grown w w' := by
  have hb := bounds_i64 w0
  by_cases h : a0 < 0
  · exact way_neg a0 h hb.1 w
  · exact way_pos a0 (by omega) hb.2 w

/-! ### THE ROW's STEP: WRITTEN OUT: LEAVE IT -/
set_option maxRecDepth 100000 in
theorem lifted (os : Os) (started : os.Started) (H : Type) (enc : TypeId × Value → H) :
    ReturnsInHanded {} Try.checked os 6 .any (Rows.fnSignedAbsRoundTripSpec.pre6 enc Try.prog Try.f6 Rows.fnSignedAbsRoundTripRow.domain false) (Rows.fnSignedAbsRoundTripSpec.post enc Try.prog Try.f6 false true false false) := by
  refine returnsInHanded_of_change (C := Try.checked) own started (by kernel_rfl) Try.func6
    (ChangeSpec.witness6 (enc := enc) (C := Try.checked) false ⟨#[], #[.int .i64 0], []⟩ 8 (by kernel_rfl) (by kernel_rfl) (by kernel_rfl) (by kernel_rfl)) ?_
  intro W base args ds gs before hval0 hW hcnd _
  have hval : ∀ (j : Nat) t v, Try.f6.params[j]? = some t → args[j]? = some v → Value.okWide Try.prog W .any base t v := hval0
  have hW' := hW
  obtain ⟨p, q, hA0, hV, rfl, hfz, hnd⟩ := hW
  have hA : DataW.TrodAll enc Try.prog W 0 (fun _ => true) true Try.f6.params.toList args.toList ds p := hA0
  rw [Try.params6] at hA hval
  obtain ⟨v0, vs0, d0, ds0, p0, q0, hargs, rfl, rfl, h0, r0⟩ := trodAll_cons hA
  obtain ⟨rfl, rfl, rfl⟩ := trodAll_nil r0
  obtain rfl : args = #[v0] := by cases args; simp_all
  obtain ⟨rfl, rfl⟩ := trodVars_none hV
  obtain ⟨a0, rfl, rfl, rfl, w0⟩ := open_int Try.underlying2 (hval 0 2 v0 rfl rfl) h0
  clear hA0 hval0
  simp only [List.append_nil] at hW'
  refine (walk a0 w0 W).mono fun e W' ⟨he, hg⟩ => ?_
  subst he
  exact ⟨_, rfl, post_of_same (pa := []) (pv := []) hW' (fun _ _ _ => (trodAll_cons_mk (shut_bool Try.underlying4 _) trodAll_mk0)) (fun sp _ => (trodAll_cons_mk (shut_int Try.underlying2 w0) trodAll_mk0)) (fun _ _ => rfl) rfl
    (hg.frame _) hg.2.1 (ok_one (by kernel_rfl) rfl (okWide_bool_mk Try.underlying4 _))⟩

theorem over : Rows.fnSignedAbsRoundTripRow.holds Try.pinned (OpenSpec.ofChange Rows.fnSignedAbsRoundTripSpec) :=
  OpenClaim.holds_of_wide 6 Try.f6 rfl rfl rfl rfl rfl rfl rfl ⟨rfl, rfl, rfl, rfl, rfl⟩ rfl rfl rfl rfl rfl (by kernel_rfl) Try.func6 (by kernel_rfl)
    (of_decide_eq_true (by kernel_rfl)) (by unfold Func.isWrapper; first | (rw [if_pos (by decide +kernel)]; kernel_rfl) | (rw [if_neg (by decide +kernel)]; exact ⟨rfl, rfl⟩))
    (fun os started H enc _ => lifted os started H enc)

theorem proved : Rows.FnSignedAbsRoundTripSaid :=
  over
end Go.Proofs.Qxb6601744a.fnSignedAbsRoundTrip

namespace Go.Proofs.Qxb6601744a
theorem roundTrip_holds : Rows.FnSignedAbsRoundTripSaid := fnSignedAbsRoundTrip.proved
end Go.Proofs.Qxb6601744a
