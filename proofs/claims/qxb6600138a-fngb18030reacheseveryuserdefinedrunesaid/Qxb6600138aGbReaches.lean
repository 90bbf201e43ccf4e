/-
  'Rows.FnGB18030ReachesEveryUserDefinedRuneSaid' proved. The frame is the seat's shell (written by proof-skeleton.mjs for this function); the walk is by the contracts of Qxb6600138aGb.lean.
-/
import Derived.Test.Qxb6600138aRows
import Derived.Test.Qxb6600138aGb
import Derived.WalkKit
import Derived.ProofKit
import Derived.OpenShut
import Derived.ShutString
namespace Go.Proofs.Qxb6600138a.fnGB18030ReachesEveryUserDefinedRune
open Go.ChangeShapes Go.WideShapes Go.ChangeAt Go.RowKit
open Go.ChangeMaps (open_string shut_string)
set_option linter.unusedVariables false      -- a walk need not use every 'w<i>' (that an integer argument fits its kind)

theorem own : ownKnob Try.prog.godebug = none := by kernel_rfl

theorem grown_drewN {W w : World} (h : Grown W w) (n : Nat) : Grown W (w.drewN n) := h

theorem way_a (r : Int) (h1 : 57344 ≤ r) (h2 : r < 57908) (w : World) :
    Calls Try.prog 4 #[.int .i32 r] w fun e w' => e = .returned (.bool true) ∧ Grown w w' := by
  have E : Hid (57344 + ((170 + (r - 57344) / 94) - 170) * 94 + ((161 + (r - 57344) % 94) - 161) = r) := by show _ = _; omega
  go_enter Try.func4, Try.ntmps4
  go_wp2_with fail
  refine (Gb.enc_a _ h1 h2 _).mono ?_
  rintro e w1 ⟨rfl, rfl⟩
  go_wp2_with fail
  refine (Gb.in_a _ _ (by omega) (by omega) (by omega) (by omega) _).mono ?_
  rintro e w2 ⟨rfl, rfl⟩
  go_wp2_with fail
  refine (Gb.shim_a _ (170 + (r - 57344) / 94) (161 + (r - 57344) % 94) (by omega) (by omega) (by omega) (by omega) _ (by simp) (by simp)).mono ?_
  rintro e w3 ⟨rfl, n, rfl⟩
  rw [E.out]
  go_wp2
  go_ret
  exact ⟨rfl, grown_drewN ((Grown.refl _).alloc _ _) _⟩

theorem way_b (r : Int) (h1 : 57908 ≤ r) (h2 : r < 58566) (w : World) :
    Calls Try.prog 4 #[.int .i32 r] w fun e w' => e = .returned (.bool true) ∧ Grown w w' := by
  have E : Hid (57908 + ((248 + (r - 57908) / 94) - 248) * 94 + ((161 + (r - 57908) % 94) - 161) = r) := by show _ = _; omega
  go_enter Try.func4, Try.ntmps4
  go_wp2_with fail
  refine (Gb.enc_b _ h1 h2 _).mono ?_
  rintro e w1 ⟨rfl, rfl⟩
  go_wp2_with fail
  refine (Gb.in_b _ _ (by omega) (by omega) (by omega) (by omega) _).mono ?_
  rintro e w2 ⟨rfl, rfl⟩
  go_wp2_with fail
  refine (Gb.shim_b _ (248 + (r - 57908) / 94) (161 + (r - 57908) % 94) (by omega) (by omega) (by omega) (by omega) _ (by simp) (by simp)).mono ?_
  rintro e w3 ⟨rfl, n, rfl⟩
  rw [E.out]
  go_wp2
  go_ret
  exact ⟨rfl, grown_drewN ((Grown.refl _).alloc _ _) _⟩

theorem way_c (r : Int) (h1 : 58566 ≤ r) (h2 : r ≤ 59237) (h3 : (r - 58566) % 96 < 63) (w : World) :
    Calls Try.prog 4 #[.int .i32 r] w fun e w' => e = .returned (.bool true) ∧ Grown w w' := by
  have E : Hid (58566 + ((161 + (r - 58566) / 96) - 161) * 96 + ((64 + (r - 58566) % 96) - 64) = r) := by show _ = _; omega
  go_enter Try.func4, Try.ntmps4
  go_wp2_with fail
  refine (Gb.enc_c _ h1 h2 h3 _).mono ?_
  rintro e w1 ⟨rfl, rfl⟩
  go_wp2_with fail
  refine (Gb.in_c _ _ (by omega) (by omega) (by omega) (by omega) _).mono ?_
  rintro e w2 ⟨rfl, rfl⟩
  go_wp2_with fail
  refine (Gb.shim_c _ (161 + (r - 58566) / 96) (64 + (r - 58566) % 96) (by omega) (by omega) (by omega) (by omega) _ (by simp) (by simp)).mono ?_
  rintro e w3 ⟨rfl, n, rfl⟩
  rw [E.out]
  go_wp2
  go_ret
  exact ⟨rfl, grown_drewN ((Grown.refl _).alloc _ _) _⟩

theorem way_d (r : Int) (h1 : 58566 ≤ r) (h2 : r ≤ 59237) (h3 : 63 ≤ (r - 58566) % 96) (w : World) :
    Calls Try.prog 4 #[.int .i32 r] w fun e w' => e = .returned (.bool true) ∧ Grown w w' := by
  have E : Hid (58566 + ((161 + (r - 58566) / 96) - 161) * 96 + ((64 + (r - 58566) % 96 + 1) - 64 - 1) = r) := by show _ = _; omega
  go_enter Try.func4, Try.ntmps4
  go_wp2_with fail
  refine (Gb.enc_d _ h1 h2 h3 _).mono ?_
  rintro e w1 ⟨rfl, rfl⟩
  go_wp2_with fail
  refine (Gb.in_d _ _ (by omega) (by omega) (by omega) (by omega) _).mono ?_
  rintro e w2 ⟨rfl, rfl⟩
  go_wp2_with fail
  refine (Gb.shim_d _ (161 + (r - 58566) / 96) (64 + (r - 58566) % 96 + 1) (by omega) (by omega) (by omega) (by omega) _ (by simp) (by simp)).mono ?_
  rintro e w3 ⟨rfl, n, rfl⟩
  rw [E.out]
  go_wp2
  go_ret
  exact ⟨rfl, grown_drewN ((Grown.refl _).alloc _ _) _⟩

/-! ### STEP 1: THE WALK: the Go text returns true. 'Grown w w'': the world has at most new blocks (Derived/RowKit3.lean). Part the cases AHEAD of 'go_enter' where a test parts the walk; take each callee by a contract of your own. -/
theorem walk (a0 : Int) (w0 : (Lit.int .i32 a0).wf = true) (w : World) :
    Calls Try.prog 4 #[.int .i32 a0] w fun e w' => e = .returned (.bool true) ∧ Grown w w' := by
  by_cases c1 : a0 < 57344
  · go_enter Try.func4, Try.ntmps4
    go_wp2
    go_ret
    exact ⟨rfl, Grown.refl _⟩
  · by_cases c2 : 59237 < a0
    · go_enter Try.func4, Try.ntmps4
      go_wp2
      go_ret
      exact ⟨rfl, Grown.refl _⟩
    · by_cases c3 : a0 < 57908
      · exact way_a a0 (by omega) c3 w
      · by_cases c4 : a0 < 58566
        · exact way_b a0 (by omega) c4 w
        · by_cases c5 : (a0 - 58566) % 96 < 63
          · exact way_c a0 (by omega) (by omega) c5 w
          · exact way_d a0 (by omega) (by omega) (by omega) w

/-! ### THE ROW's STEP: WRITTEN OUT: LEAVE IT -/
set_option maxRecDepth 100000 in
theorem lifted (os : Os) (started : os.Started) (H : Type) (enc : TypeId × Value → H) :
    ReturnsInHanded {} Try.checked os 4 .any (Rows.fnGB18030ReachesEveryUserDefinedRuneSpec.pre6 enc Try.prog Try.f4 Rows.fnGB18030ReachesEveryUserDefinedRuneRow.domain false) (Rows.fnGB18030ReachesEveryUserDefinedRuneSpec.post enc Try.prog Try.f4 false true false false) := by
  refine returnsInHanded_of_change (C := Try.checked) own started (by kernel_rfl) Try.func4
    (ChangeSpec.witness6 (enc := enc) (C := Try.checked) false ⟨#[], #[.int .i32 0], []⟩ 8 (by kernel_rfl) (by kernel_rfl) (by kernel_rfl) (by kernel_rfl)) ?_
  intro W base args ds gs before hval0 hW hcnd _
  have hval : ∀ (j : Nat) t v, Try.f4.params[j]? = some t → args[j]? = some v → Value.okWide Try.prog W .any base t v := hval0
  have hW' := hW
  obtain ⟨p, q, hA0, hV, rfl, hfz, hnd⟩ := hW
  have hA : DataW.TrodAll enc Try.prog W 0 (fun _ => true) true Try.f4.params.toList args.toList ds p := hA0
  rw [Try.params4] at hA hval
  obtain ⟨v0, vs0, d0, ds0, p0, q0, hargs, rfl, rfl, h0, r0⟩ := trodAll_cons hA
  obtain ⟨rfl, rfl, rfl⟩ := trodAll_nil r0
  obtain rfl : args = #[v0] := by cases args; simp_all
  obtain ⟨rfl, rfl⟩ := trodVars_none hV
  obtain ⟨a0, rfl, rfl, rfl, w0⟩ := open_int Try.underlying21 (hval 0 21 v0 rfl rfl) h0
  clear hA0 hval0
  simp only [List.append_nil] at hW'
  refine (walk a0 w0 W).mono fun e W' ⟨he, hg⟩ => ?_
  subst he
  exact ⟨_, rfl, post_of_same (pa := []) (pv := []) hW' (fun _ _ _ => (trodAll_cons_mk (shut_bool Try.underlying4 _) trodAll_mk0)) (fun sp _ => (trodAll_cons_mk (shut_int Try.underlying21 w0) trodAll_mk0)) (fun _ _ => rfl) rfl
    (hg.frame _) hg.2.1 (ok_one (by kernel_rfl) rfl (okWide_bool_mk Try.underlying4 _))⟩

theorem over : Rows.fnGB18030ReachesEveryUserDefinedRuneRow.holds Try.pinned (OpenSpec.ofChange Rows.fnGB18030ReachesEveryUserDefinedRuneSpec) :=
  OpenClaim.holds_of_wide 4 Try.f4 rfl rfl rfl rfl rfl rfl rfl ⟨rfl, rfl, rfl, rfl, rfl⟩ rfl rfl rfl rfl rfl (by kernel_rfl) Try.func4 (by kernel_rfl)
    (of_decide_eq_true (by kernel_rfl)) (by unfold Func.isWrapper; first | (rw [if_pos (by decide +kernel)]; kernel_rfl) | (rw [if_neg (by decide +kernel)]; exact ⟨rfl, rfl⟩))
    (fun os started H enc _ => lifted os started H enc)

theorem proved : Rows.FnGB18030ReachesEveryUserDefinedRuneSaid :=
  over
end Go.Proofs.Qxb6600138a.fnGB18030ReachesEveryUserDefinedRune

namespace Go.Proofs.Qxb6600138a
theorem gbReaches_holds : Rows.FnGB18030ReachesEveryUserDefinedRuneSaid := fnGB18030ReachesEveryUserDefinedRune.proved
end Go.Proofs.Qxb6600138a
