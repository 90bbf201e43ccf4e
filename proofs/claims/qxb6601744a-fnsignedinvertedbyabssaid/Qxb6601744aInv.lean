/-
  'Rows.FnSignedInvertedByAbsSaid' proved. The frame is the seat's shell (written by proof-skeleton.mjs for this function); the walk is by the contracts of the text Qxb6601744aAbs.
-/
import Derived.Test.Qxb6601744aRows
import Derived.Test.Qxb6601744aAbs
import Derived.WalkKit
import Derived.ProofKit
import Derived.OpenShut
import Derived.ShutString
namespace Go.Proofs.Qxb6601744a.fnSignedInvertedByAbs
open Go.ChangeShapes Go.WideShapes Go.ChangeAt Go.RowKit
open Go.ChangeMaps (open_string shut_string)
set_option linter.unusedVariables false      -- a walk need not use every 'w<i>' (that an integer argument fits its kind)

theorem own : ownKnob Try.prog.godebug = none := by kernel_rfl

/-! ### One theorem a way through -/
theorem way_big (q : Int) (v : Bool) (h0 : 9223372036854775807 < q) (w : World) :
    Calls Try.prog 7 #[.int .u64 q, .bool v] w fun e w' => e = .returned (.bool true) ∧ Grown w w' := by
  go_enter Try.func7, Try.ntmps7
  go_wp2
  go_ret
  exact ⟨rfl, Grown.refl _⟩

theorem way_zero_f (w : World) :
    Calls Try.prog 7 #[.int .u64 0, .bool false] w fun e w' => e = .returned (.bool true) ∧ Grown w w' := by
  go_enter Try.func7, Try.ntmps7
  go_wp2_with fail
  refine (Abs.zzsigned_pos 0 (by omega) (by omega) _).mono ?_
  rintro e w' ⟨rfl, rfl⟩
  go_wp2_with fail
  refine (Abs.zzabs_pos 0 (by omega) (by omega) _).mono ?_
  rintro e w' ⟨rfl, rfl⟩
  go_wp2_with fail
  refine (Abs.zzsigned_neg 0 (by omega) (by omega) _).mono ?_
  rintro e w' ⟨rfl, rfl⟩
  go_wp2
  go_ret
  exact ⟨rfl, Grown.refl _⟩

theorem way_zero_t (w : World) :
    Calls Try.prog 7 #[.int .u64 0, .bool true] w fun e w' => e = .returned (.bool true) ∧ Grown w w' := by
  go_enter Try.func7, Try.ntmps7
  go_wp2_with fail
  refine (Abs.zzsigned_neg 0 (by omega) (by omega) _).mono ?_
  rintro e w' ⟨rfl, rfl⟩
  rw [Int.neg_zero]
  go_wp2_with fail
  refine (Abs.zzabs_pos 0 (by omega) (by omega) _).mono ?_
  rintro e w' ⟨rfl, rfl⟩
  go_wp2_with fail
  refine (Abs.zzsigned_pos 0 (by omega) (by omega) _).mono ?_
  rintro e w' ⟨rfl, rfl⟩
  go_wp2
  go_ret
  exact ⟨rfl, Grown.refl _⟩

theorem way_f (q : Int) (h0 : 0 < q) (h1 : q ≤ 9223372036854775807) (w : World) :
    Calls Try.prog 7 #[.int .u64 q, .bool false] w fun e w' => e = .returned (.bool true) ∧ Grown w w' := by
  have f1 : (q == 0) = false := beq_false_of_ne (by omega)
  have f2 : decide (q < 0) = false := decide_eq_false (by omega)
  go_enter Try.func7, Try.ntmps7
  go_wp2_with fail
  refine (Abs.zzsigned_pos q (by omega) h1 _).mono ?_
  rintro e w' ⟨rfl, rfl⟩
  go_wp2_with fail
  refine (Abs.zzabs_pos q (by omega) h1 _).mono ?_
  rintro e w' ⟨rfl, rfl⟩
  go_wp2_with fail
  refine (Abs.zzsigned_neg q (by omega) (by omega) _).mono ?_
  rintro e w' ⟨rfl, rfl⟩
  go_wp2
  go_ret
  exact ⟨rfl, Grown.refl _⟩

theorem way_t (q : Int) (h0 : 0 < q) (h1 : q ≤ 9223372036854775807) (w : World) :
    Calls Try.prog 7 #[.int .u64 q, .bool true] w fun e w' => e = .returned (.bool true) ∧ Grown w w' := by
  have f1 : (q == 0) = false := beq_false_of_ne (by omega)
  have f2 : decide (-q < 0) = true := decide_eq_true (by omega)
  have f3 : (-q == 0) = false := beq_false_of_ne (by omega)
  have f4 : (q != 0) = true := bne_iff_ne.2 (by omega)
  have en : Hid (- -q = q) := Int.neg_neg q
  go_enter Try.func7, Try.ntmps7
  go_wp2_with fail
  refine (Abs.zzsigned_neg q (by omega) (by omega) _).mono ?_
  rintro e w' ⟨rfl, rfl⟩
  go_wp2_with fail
  refine (Abs.zzabs_neg (-q) (by omega) (by omega) _).mono ?_
  rintro e w' ⟨rfl, rfl⟩
  rw [en.out]
  go_wp2_with fail
  refine (Abs.zzsigned_pos q (by omega) h1 _).mono ?_
  rintro e w' ⟨rfl, rfl⟩
  go_wp2
  go_ret
  exact ⟨rfl, Grown.refl _⟩

/-! ### STEP 1: THE WALK: the Go text returns true. 'Grown w w'': the world has at most new blocks (Derived/RowKit3.lean). Part the cases AHEAD of 'go_enter' where a test parts the walk; take each callee by a contract of your own. -/
theorem walk (a0 : Int) (a1 : Bool) (w0 : (Lit.int .u64 a0).wf = true) (w : World) :
    Calls Try.prog 7 #[.int .u64 a0, .bool a1] w fun e w' => e = .returned (.bool true) ∧ Grown w w' := by
  have hb := bounds_u64 w0
  by_cases c1 : 9223372036854775807 < a0
  · exact way_big a0 a1 c1 w
  by_cases c2 : a0 = 0
  · subst c2
    cases a1
    · exact way_zero_f w
    · exact way_zero_t w
  cases a1
  · exact way_f a0 (by omega) (by omega) w
  · exact way_t a0 (by omega) (by omega) w

/-! ### THE ROW's STEP: WRITTEN OUT: LEAVE IT -/
set_option maxRecDepth 100000 in
theorem lifted (os : Os) (started : os.Started) (H : Type) (enc : TypeId × Value → H) :
    ReturnsInHanded {} Try.checked os 7 .any (Rows.fnSignedInvertedByAbsSpec.pre6 enc Try.prog Try.f7 Rows.fnSignedInvertedByAbsRow.domain false) (Rows.fnSignedInvertedByAbsSpec.post enc Try.prog Try.f7 false true false false) := by
  refine returnsInHanded_of_change (C := Try.checked) own started (by kernel_rfl) Try.func7
    (ChangeSpec.witness6 (enc := enc) (C := Try.checked) false ⟨#[], #[.int .u64 0, .bool false], []⟩ 8 (by kernel_rfl) (by kernel_rfl) (by kernel_rfl) (by kernel_rfl)) ?_
  intro W base args ds gs before hval0 hW hcnd _
  have hval : ∀ (j : Nat) t v, Try.f7.params[j]? = some t → args[j]? = some v → Value.okWide Try.prog W .any base t v := hval0
  have hW' := hW
  obtain ⟨p, q, hA0, hV, rfl, hfz, hnd⟩ := hW
  have hA : DataW.TrodAll enc Try.prog W 0 (fun _ => true) true Try.f7.params.toList args.toList ds p := hA0
  rw [Try.params7] at hA hval
  obtain ⟨v0, vs0, d0, ds0, p0, q0, hargs, rfl, rfl, h0, r0⟩ := trodAll_cons hA
  obtain ⟨v1, vs1, d1, ds1, p1, q1, rfl, rfl, rfl, h1, r1⟩ := trodAll_cons r0
  obtain ⟨rfl, rfl, rfl⟩ := trodAll_nil r1
  obtain rfl : args = #[v0, v1] := by cases args; simp_all
  obtain ⟨rfl, rfl⟩ := trodVars_none hV
  obtain ⟨a0, rfl, rfl, rfl, w0⟩ := open_int Try.underlying22 (hval 0 22 v0 rfl rfl) h0
  obtain ⟨a1, rfl, rfl, rfl⟩ := open_bool Try.underlying4 (hval 1 4 v1 rfl rfl) h1
  clear hA0 hval0
  simp only [List.append_nil] at hW'
  refine (walk a0 a1 w0 W).mono fun e W' ⟨he, hg⟩ => ?_
  subst he
  exact ⟨_, rfl, post_of_same (pa := []) (pv := []) hW' (fun _ _ _ => (trodAll_cons_mk (shut_bool Try.underlying4 _) trodAll_mk0)) (fun sp _ => (trodAll_cons_mk (shut_int Try.underlying22 w0) (trodAll_cons_mk (shut_bool Try.underlying4 _) trodAll_mk0))) (fun _ _ => rfl) rfl
    (hg.frame _) hg.2.1 (ok_one (by kernel_rfl) rfl (okWide_bool_mk Try.underlying4 _))⟩

theorem over : Rows.fnSignedInvertedByAbsRow.holds Try.pinned (OpenSpec.ofChange Rows.fnSignedInvertedByAbsSpec) :=
  OpenClaim.holds_of_wide 7 Try.f7 rfl rfl rfl rfl rfl rfl rfl ⟨rfl, rfl, rfl, rfl, rfl⟩ rfl rfl rfl rfl rfl (by kernel_rfl) Try.func7 (by kernel_rfl)
    (of_decide_eq_true (by kernel_rfl)) (by unfold Func.isWrapper; first | (rw [if_pos (by decide +kernel)]; kernel_rfl) | (rw [if_neg (by decide +kernel)]; exact ⟨rfl, rfl⟩))
    (fun os started H enc _ => lifted os started H enc)

theorem proved : Rows.FnSignedInvertedByAbsSaid :=
  over
end Go.Proofs.Qxb6601744a.fnSignedInvertedByAbs

namespace Go.Proofs.Qxb6601744a
theorem inverted_holds : Rows.FnSignedInvertedByAbsSaid := fnSignedInvertedByAbs.proved
end Go.Proofs.Qxb6601744a
