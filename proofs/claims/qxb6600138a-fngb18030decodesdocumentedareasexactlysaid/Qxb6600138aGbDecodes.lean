/-
  'Rows.FnGB18030DecodesDocumentedAreasExactlySaid' proved. The frame is the seat's shell (written by proof-skeleton.mjs for this function); the walk is by the contracts of the text Qxb6600138aGb.
-/
import Derived.Test.Qxb6600138aRows
import Derived.Test.Qxb6600138aGb
import Derived.WalkKit
import Derived.ProofKit
import Derived.OpenShut
import Derived.ShutString
namespace Go.Proofs.Qxb6600138a.fnGB18030DecodesDocumentedAreasExactly
open Go.ChangeShapes Go.WideShapes Go.ChangeAt Go.RowKit
open Go.ChangeMaps (open_string shut_string)
set_option linter.unusedVariables false      -- a walk need not use every 'w<i>' (that an integer argument fits its kind)

theorem own : ownKnob Try.prog.godebug = none := by kernel_rfl

theorem grown_drewN {W w : World} (h : Grown W w) (n : Nat) : Grown W (w.drewN n) := h

theorem trail_no (a0 a1 : Int) (hc : ∀ w : World, Calls Try.prog 11 #[.int .u8 a1] w fun e w' => e = .returned (.bool false) ∧ w' = w) (w : World) :
    Calls Try.prog 3 #[.int .u8 a0, .int .u8 a1] w fun e w' => e = .returned (.bool true) ∧ Grown w w' := by
  have H : Hid (∀ w : World, Calls Try.prog 11 #[.int .u8 a1] w fun e w' => e = .returned (.bool false) ∧ w' = w) := hc
  clear hc
  go_enter Try.func3, Try.ntmps3
  go_wp2_with fail
  refine (H.out _).mono ?_
  rintro e w1 ⟨rfl, rfl⟩
  go_wp2
  go_ret
  exact ⟨rfl, Grown.refl _⟩

theorem way_no (f s : Int) (hf0 : 0 ≤ f) (hf1 : f ≤ 255) (hs0 : 64 ≤ s) (hs1 : s ≤ 254) (hn : s ≠ 127) (hr : Gb.Refused f s) (w : World) :
    Calls Try.prog 3 #[.int .u8 f, .int .u8 s] w fun e w' => e = .returned (.bool true) ∧ Grown w w' := by
  go_enter Try.func3, Try.ntmps3
  go_wp2_with fail
  refine (Gb.trail_yes s hs0 hs1 hn _).mono ?_
  rintro e w1 ⟨rfl, rfl⟩
  go_wp2_with fail
  refine (Gb.shim_no _ f s hf0 hf1 (by omega) (by omega) hr _ (by simp) (by simp)).mono ?_
  rintro e w3 ⟨rfl, n, rfl⟩
  go_wp2_with fail
  refine (Gb.in_no f s hf0 hf1 (by omega) (by omega) hr _).mono ?_
  rintro e w4 ⟨rfl, rfl⟩
  go_wp2
  go_ret
  exact ⟨rfl, grown_drewN ((Grown.refl _).alloc _ _) _⟩

theorem way_a (f s : Int) (h1 : 170 ≤ f) (h2 : f ≤ 175) (h3 : 161 ≤ s) (h4 : s ≤ 254) (w : World) :
    Calls Try.prog 3 #[.int .u8 f, .int .u8 s] w fun e w' => e = .returned (.bool true) ∧ Grown w w' := by
  have E1 : Hid (170 + ((57344 + (f - 170) * 94 + (s - 161)) - 57344) / 94 = f) := by show _ = _; omega
  have E2 : Hid (161 + ((57344 + (f - 170) * 94 + (s - 161)) - 57344) % 94 = s) := by show _ = _; omega
  go_enter Try.func3, Try.ntmps3
  go_wp2_with fail
  refine (Gb.trail_yes s (by omega) (by omega) (by omega) _).mono ?_
  rintro e w1 ⟨rfl, rfl⟩
  go_wp2_with fail
  refine (Gb.shim_a _ f s (by omega) (by omega) (by omega) (by omega) _ (by simp) (by simp)).mono ?_
  rintro e w3 ⟨rfl, n, rfl⟩
  go_wp2_with fail
  refine (Gb.in_a f s (by omega) (by omega) (by omega) (by omega) _).mono ?_
  rintro e w4 ⟨rfl, rfl⟩
  go_wp2_with fail
  refine (Gb.enc_a (57344 + (f - 170) * 94 + (s - 161)) (by omega) (by omega) _).mono ?_
  rintro e w5 ⟨rfl, rfl⟩
  rw [E1.out, E2.out]
  go_wp2
  go_ret
  exact ⟨rfl, grown_drewN ((Grown.refl _).alloc _ _) _⟩

theorem way_b (f s : Int) (h1 : 248 ≤ f) (h2 : f ≤ 254) (h3 : 161 ≤ s) (h4 : s ≤ 254) (w : World) :
    Calls Try.prog 3 #[.int .u8 f, .int .u8 s] w fun e w' => e = .returned (.bool true) ∧ Grown w w' := by
  have E1 : Hid (248 + ((57908 + (f - 248) * 94 + (s - 161)) - 57908) / 94 = f) := by show _ = _; omega
  have E2 : Hid (161 + ((57908 + (f - 248) * 94 + (s - 161)) - 57908) % 94 = s) := by show _ = _; omega
  go_enter Try.func3, Try.ntmps3
  go_wp2_with fail
  refine (Gb.trail_yes s (by omega) (by omega) (by omega) _).mono ?_
  rintro e w1 ⟨rfl, rfl⟩
  go_wp2_with fail
  refine (Gb.shim_b _ f s (by omega) (by omega) (by omega) (by omega) _ (by simp) (by simp)).mono ?_
  rintro e w3 ⟨rfl, n, rfl⟩
  go_wp2_with fail
  refine (Gb.in_b f s (by omega) (by omega) (by omega) (by omega) _).mono ?_
  rintro e w4 ⟨rfl, rfl⟩
  go_wp2_with fail
  refine (Gb.enc_b (57908 + (f - 248) * 94 + (s - 161)) (by omega) (by omega) _).mono ?_
  rintro e w5 ⟨rfl, rfl⟩
  rw [E1.out, E2.out]
  go_wp2
  go_ret
  exact ⟨rfl, grown_drewN ((Grown.refl _).alloc _ _) _⟩

theorem way_c (f s : Int) (h1 : 161 ≤ f) (h2 : f ≤ 167) (h3 : 64 ≤ s) (h4 : s ≤ 126) (w : World) :
    Calls Try.prog 3 #[.int .u8 f, .int .u8 s] w fun e w' => e = .returned (.bool true) ∧ Grown w w' := by
  have E1 : Hid (161 + ((58566 + (f - 161) * 96 + (s - 64)) - 58566) / 96 = f) := by show _ = _; omega
  have E2 : Hid (64 + ((58566 + (f - 161) * 96 + (s - 64)) - 58566) % 96 = s) := by show _ = _; omega
  go_enter Try.func3, Try.ntmps3
  go_wp2_with fail
  refine (Gb.trail_yes s (by omega) (by omega) (by omega) _).mono ?_
  rintro e w1 ⟨rfl, rfl⟩
  go_wp2_with fail
  refine (Gb.shim_c _ f s (by omega) (by omega) (by omega) (by omega) _ (by simp) (by simp)).mono ?_
  rintro e w3 ⟨rfl, n, rfl⟩
  go_wp2_with fail
  refine (Gb.in_c f s (by omega) (by omega) (by omega) (by omega) _).mono ?_
  rintro e w4 ⟨rfl, rfl⟩
  go_wp2_with fail
  refine (Gb.enc_c (58566 + (f - 161) * 96 + (s - 64)) (by omega) (by omega) (by omega) _).mono ?_
  rintro e w5 ⟨rfl, rfl⟩
  rw [E1.out, E2.out]
  go_wp2
  go_ret
  exact ⟨rfl, grown_drewN ((Grown.refl _).alloc _ _) _⟩

theorem way_d (f s : Int) (h1 : 161 ≤ f) (h2 : f ≤ 167) (h3 : 128 ≤ s) (h4 : s ≤ 160) (w : World) :
    Calls Try.prog 3 #[.int .u8 f, .int .u8 s] w fun e w' => e = .returned (.bool true) ∧ Grown w w' := by
  have E1 : Hid (161 + ((58566 + (f - 161) * 96 + (s - 64 - 1)) - 58566) / 96 = f) := by show _ = _; omega
  have E2 : Hid (64 + ((58566 + (f - 161) * 96 + (s - 64 - 1)) - 58566) % 96 + 1 = s) := by show _ = _; omega
  go_enter Try.func3, Try.ntmps3
  go_wp2_with fail
  refine (Gb.trail_yes s (by omega) (by omega) (by omega) _).mono ?_
  rintro e w1 ⟨rfl, rfl⟩
  go_wp2_with fail
  refine (Gb.shim_d _ f s (by omega) (by omega) (by omega) (by omega) _ (by simp) (by simp)).mono ?_
  rintro e w3 ⟨rfl, n, rfl⟩
  go_wp2_with fail
  refine (Gb.in_d f s (by omega) (by omega) (by omega) (by omega) _).mono ?_
  rintro e w4 ⟨rfl, rfl⟩
  go_wp2_with fail
  refine (Gb.enc_d (58566 + (f - 161) * 96 + (s - 64 - 1)) (by omega) (by omega) (by omega) _).mono ?_
  rintro e w5 ⟨rfl, rfl⟩
  rw [E1.out, E2.out]
  go_wp2
  go_ret
  exact ⟨rfl, grown_drewN ((Grown.refl _).alloc _ _) _⟩

/-! ### STEP 1: THE WALK: the Go text returns true. 'Grown w w'': the world has at most new blocks (Derived/RowKit3.lean). Part the cases AHEAD of 'go_enter' where a test parts the walk; take each callee by a contract of your own. -/
theorem walk (a0 : Int) (a1 : Int) (w0 : (Lit.int .u8 a0).wf = true) (w1 : (Lit.int .u8 a1).wf = true) (w : World) :
    Calls Try.prog 3 #[.int .u8 a0, .int .u8 a1] w fun e w' => e = .returned (.bool true) ∧ Grown w w' := by
  have b0 := bounds_u8 w0
  have b1 := bounds_u8 w1
  by_cases t1 : a1 < 64
  · exact trail_no a0 a1 (fun w => Gb.trail_lo a1 (by omega) t1 w) w
  by_cases t2 : 254 < a1
  · exact trail_no a0 a1 (fun w => Gb.trail_hi a1 t2 (by omega) w) w
  by_cases t3 : a1 = 127
  · subst t3
    exact trail_no a0 127 (fun w => Gb.trail_mid w) w
  by_cases c1 : 170 ≤ a0 ∧ a0 ≤ 175 ∧ 161 ≤ a1
  · exact way_a a0 a1 c1.1 c1.2.1 c1.2.2 (by omega) w
  by_cases c2 : 248 ≤ a0 ∧ a0 ≤ 254 ∧ 161 ≤ a1
  · exact way_b a0 a1 c2.1 c2.2.1 c2.2.2 (by omega) w
  by_cases c3 : 161 ≤ a0 ∧ a0 ≤ 167 ∧ a1 ≤ 126
  · exact way_c a0 a1 c3.1 c3.2.1 (by omega) c3.2.2 w
  by_cases c4 : 161 ≤ a0 ∧ a0 ≤ 167 ∧ 128 ≤ a1 ∧ a1 ≤ 160
  · exact way_d a0 a1 c4.1 c4.2.1 c4.2.2.1 c4.2.2.2 w
  exact way_no a0 a1 (by omega) (by omega) (by omega) (by omega) t3 (by unfold Gb.Refused; omega) w

/-! ### THE ROW's STEP: WRITTEN OUT: LEAVE IT -/
set_option maxRecDepth 100000 in
theorem lifted (os : Os) (started : os.Started) (H : Type) (enc : TypeId × Value → H) :
    ReturnsInHanded {} Try.checked os 3 .any (Rows.fnGB18030DecodesDocumentedAreasExactlySpec.pre6 enc Try.prog Try.f3 Rows.fnGB18030DecodesDocumentedAreasExactlyRow.domain false) (Rows.fnGB18030DecodesDocumentedAreasExactlySpec.post enc Try.prog Try.f3 false true false false) := by
  refine returnsInHanded_of_change (C := Try.checked) own started (by kernel_rfl) Try.func3
    (ChangeSpec.witness6 (enc := enc) (C := Try.checked) false ⟨#[], #[.int .u8 0, .int .u8 0], []⟩ 8 (by kernel_rfl) (by kernel_rfl) (by kernel_rfl) (by kernel_rfl)) ?_
  intro W base args ds gs before hval0 hW hcnd _
  have hval : ∀ (j : Nat) t v, Try.f3.params[j]? = some t → args[j]? = some v → Value.okWide Try.prog W .any base t v := hval0
  have hW' := hW
  obtain ⟨p, q, hA0, hV, rfl, hfz, hnd⟩ := hW
  have hA : DataW.TrodAll enc Try.prog W 0 (fun _ => true) true Try.f3.params.toList args.toList ds p := hA0
  rw [Try.params3] at hA hval
  obtain ⟨v0, vs0, d0, ds0, p0, q0, hargs, rfl, rfl, h0, r0⟩ := trodAll_cons hA
  obtain ⟨v1, vs1, d1, ds1, p1, q1, rfl, rfl, rfl, h1, r1⟩ := trodAll_cons r0
  obtain ⟨rfl, rfl, rfl⟩ := trodAll_nil r1
  obtain rfl : args = #[v0, v1] := by cases args; simp_all
  obtain ⟨rfl, rfl⟩ := trodVars_none hV
  obtain ⟨a0, rfl, rfl, rfl, w0⟩ := open_int Try.underlying5 (hval 0 5 v0 rfl rfl) h0
  obtain ⟨a1, rfl, rfl, rfl, w1⟩ := open_int Try.underlying5 (hval 1 5 v1 rfl rfl) h1
  clear hA0 hval0
  simp only [List.append_nil] at hW'
  refine (walk a0 a1 w0 w1 W).mono fun e W' ⟨he, hg⟩ => ?_
  subst he
  exact ⟨_, rfl, post_of_same (pa := []) (pv := []) hW' (fun _ _ _ => (trodAll_cons_mk (shut_bool Try.underlying4 _) trodAll_mk0)) (fun sp _ => (trodAll_cons_mk (shut_int Try.underlying5 w0) (trodAll_cons_mk (shut_int Try.underlying5 w1) trodAll_mk0))) (fun _ _ => rfl) rfl
    (hg.frame _) hg.2.1 (ok_one (by kernel_rfl) rfl (okWide_bool_mk Try.underlying4 _))⟩

theorem over : Rows.fnGB18030DecodesDocumentedAreasExactlyRow.holds Try.pinned (OpenSpec.ofChange Rows.fnGB18030DecodesDocumentedAreasExactlySpec) :=
  OpenClaim.holds_of_wide 3 Try.f3 rfl rfl rfl rfl rfl rfl rfl ⟨rfl, rfl, rfl, rfl, rfl⟩ rfl rfl rfl rfl rfl (by kernel_rfl) Try.func3 (by kernel_rfl)
    (of_decide_eq_true (by kernel_rfl)) (by unfold Func.isWrapper; first | (rw [if_pos (by decide +kernel)]; kernel_rfl) | (rw [if_neg (by decide +kernel)]; exact ⟨rfl, rfl⟩))
    (fun os started H enc _ => lifted os started H enc)

theorem proved : Rows.FnGB18030DecodesDocumentedAreasExactlySaid :=
  over
end Go.Proofs.Qxb6600138a.fnGB18030DecodesDocumentedAreasExactly

namespace Go.Proofs.Qxb6600138a
theorem gbDecodes_holds : Rows.FnGB18030DecodesDocumentedAreasExactlySaid := fnGB18030DecodesDocumentedAreasExactly.proved
end Go.Proofs.Qxb6600138a
