/-
  The walks of the GB 18030 functions that the two laws share: zzProperTrail (11), ZZgb18030UserDefined (12), zzInUserDefinedArea (13), zzEncodeUserDefined (14), gb18030UserDefined (28).
  One theorem a function and a way through it; every test is decided by the inequalities ahead of the walk.
-/
import Derived.Test.Qxb6600138aRows
import Derived.WalkKit
import Derived.ProofKit
import Derived.OpenShut
import Derived.Deep.QuietTactic
import Derived.BigQuiet
namespace Go.Proofs.Qxb6600138a.Gb
open Go.ChangeShapes Go.WideShapes Go.ChangeAt Go.RowKit
set_option linter.unusedVariables false      -- the bounds are there for the walk's own arithmetic

/-- The code lies in none of the three areas. -/
def Refused (f s : Int) : Prop := (161 ≤ s ∧ (f < 170 ∨ (175 < f ∧ f < 248) ∨ 254 < f)) ∨ (s ≤ 160 ∧ (f < 161 ∨ 167 < f))

/-! ### gb18030UserDefined (28) over two bytes -/
theorem ud_a (b : Nat) (f s : Int) (h1 : 170 ≤ f) (h2 : f ≤ 175) (h3 : 161 ≤ s) (h4 : s ≤ 255) (w : World)
    (c0 : w.cell? ⟨b, 0, none⟩ = some (.int .u8 f)) (c1 : w.cell? ⟨b, 1, none⟩ = some (.int .u8 s)) :
    Calls Try.prog 28 #[.slice (some ⟨b, 0, none⟩) 2 2] w fun e w' => e = .returned (.tuple #[.int .i32 (57344 + (f - 170) * 94 + (s - 161)), .bool true]) ∧ ∃ n, w' = w.drewN n := by
  go_enter Try.func28, Try.ntmps28
  go_wp2
  go_quiet (fail)
  go_wp2
  all_goals (go_ret2; exact ⟨rfl, _, rfl⟩)

theorem ud_b (b : Nat) (f s : Int) (h1 : 248 ≤ f) (h2 : f ≤ 254) (h3 : 161 ≤ s) (h4 : s ≤ 255) (w : World)
    (c0 : w.cell? ⟨b, 0, none⟩ = some (.int .u8 f)) (c1 : w.cell? ⟨b, 1, none⟩ = some (.int .u8 s)) :
    Calls Try.prog 28 #[.slice (some ⟨b, 0, none⟩) 2 2] w fun e w' => e = .returned (.tuple #[.int .i32 (57908 + (f - 248) * 94 + (s - 161)), .bool true]) ∧ ∃ n, w' = w.drewN n := by
  go_enter Try.func28, Try.ntmps28
  go_wp2
  go_quiet (fail)
  go_wp2
  all_goals (go_ret2; exact ⟨rfl, _, rfl⟩)

theorem ud_c (b : Nat) (f s : Int) (h1 : 161 ≤ f) (h2 : f ≤ 167) (h3 : 64 ≤ s) (h4 : s ≤ 127) (w : World)
    (c0 : w.cell? ⟨b, 0, none⟩ = some (.int .u8 f)) (c1 : w.cell? ⟨b, 1, none⟩ = some (.int .u8 s)) :
    Calls Try.prog 28 #[.slice (some ⟨b, 0, none⟩) 2 2] w fun e w' => e = .returned (.tuple #[.int .i32 (58566 + (f - 161) * 96 + (s - 64)), .bool true]) ∧ ∃ n, w' = w.drewN n := by
  go_enter Try.func28, Try.ntmps28
  go_wp2
  go_quiet (fail)
  go_wp2
  all_goals (go_ret2; exact ⟨rfl, _, rfl⟩)

theorem ud_d (b : Nat) (f s : Int) (h1 : 161 ≤ f) (h2 : f ≤ 167) (h3 : 128 ≤ s) (h4 : s ≤ 160) (w : World)
    (c0 : w.cell? ⟨b, 0, none⟩ = some (.int .u8 f)) (c1 : w.cell? ⟨b, 1, none⟩ = some (.int .u8 s)) :
    Calls Try.prog 28 #[.slice (some ⟨b, 0, none⟩) 2 2] w fun e w' => e = .returned (.tuple #[.int .i32 (58566 + (f - 161) * 96 + (s - 64 - 1)), .bool true]) ∧ ∃ n, w' = w.drewN n := by
  go_enter Try.func28, Try.ntmps28
  go_wp2
  go_quiet (fail)
  go_wp2
  all_goals (go_ret2; exact ⟨rfl, _, rfl⟩)

theorem ud_no (b : Nat) (f s : Int) (hf0 : 0 ≤ f) (hf1 : f ≤ 255) (hs0 : 0 ≤ s) (hs1 : s ≤ 255) (hr : Refused f s) (w : World)
    (c0 : w.cell? ⟨b, 0, none⟩ = some (.int .u8 f)) (c1 : w.cell? ⟨b, 1, none⟩ = some (.int .u8 s)) :
    Calls Try.prog 28 #[.slice (some ⟨b, 0, none⟩) 2 2] w fun e w' => e = .returned (.tuple #[.int .i32 (0), .bool false]) ∧ ∃ n, w' = w.drewN n := by
  rcases hr with ⟨hs, h | ⟨h, h'⟩ | h⟩ | ⟨hs, h | h⟩
  · go_enter Try.func28, Try.ntmps28
    go_wp2
    go_quiet (fail)
    go_wp2
    all_goals (go_ret2; exact ⟨rfl, _, rfl⟩)
  · go_enter Try.func28, Try.ntmps28
    go_wp2
    go_quiet (fail)
    go_wp2
    all_goals (go_ret2; exact ⟨rfl, _, rfl⟩)
  · go_enter Try.func28, Try.ntmps28
    go_wp2
    go_quiet (fail)
    go_wp2
    all_goals (go_ret2; exact ⟨rfl, _, rfl⟩)
  · go_enter Try.func28, Try.ntmps28
    go_wp2
    go_quiet (fail)
    go_wp2
    all_goals (go_ret2; exact ⟨rfl, _, rfl⟩)
  · go_enter Try.func28, Try.ntmps28
    go_wp2
    go_quiet (fail)
    go_wp2
    all_goals (go_ret2; exact ⟨rfl, _, rfl⟩)

/-! ### The shim (12) over it -/
theorem shim_a (b : Nat) (f s : Int) (h1 : 170 ≤ f) (h2 : f ≤ 175) (h3 : 161 ≤ s) (h4 : s ≤ 255) (w : World)
    (c0 : w.cell? ⟨b, 0, none⟩ = some (.int .u8 f)) (c1 : w.cell? ⟨b, 1, none⟩ = some (.int .u8 s)) :
    Calls Try.prog 12 #[.slice (some ⟨b, 0, none⟩) 2 2] w fun e w' => e = .returned (.tuple #[.int .i32 (57344 + (f - 170) * 94 + (s - 161)), .bool true]) ∧ ∃ n, w' = w.drewN n := by
  have hc := ud_a b f s h1 h2 h3 h4 w c0 c1
  have H : Hid (Calls Try.prog 28 #[.slice (some ⟨b, 0, none⟩) 2 2] w fun e w' => e = .returned (.tuple #[.int .i32 (57344 + (f - 170) * 94 + (s - 161)), .bool true]) ∧ ∃ n, w' = w.drewN n) := hc
  clear hc
  go_enter Try.func12, Try.ntmps12
  go_wp2_with (go_at_call 28; refine H.out.mono ?_; rintro e w' ⟨rfl, n, rfl⟩)
  go_ret2
  exact ⟨rfl, _, rfl⟩

theorem shim_b (b : Nat) (f s : Int) (h1 : 248 ≤ f) (h2 : f ≤ 254) (h3 : 161 ≤ s) (h4 : s ≤ 255) (w : World)
    (c0 : w.cell? ⟨b, 0, none⟩ = some (.int .u8 f)) (c1 : w.cell? ⟨b, 1, none⟩ = some (.int .u8 s)) :
    Calls Try.prog 12 #[.slice (some ⟨b, 0, none⟩) 2 2] w fun e w' => e = .returned (.tuple #[.int .i32 (57908 + (f - 248) * 94 + (s - 161)), .bool true]) ∧ ∃ n, w' = w.drewN n := by
  have hc := ud_b b f s h1 h2 h3 h4 w c0 c1
  have H : Hid (Calls Try.prog 28 #[.slice (some ⟨b, 0, none⟩) 2 2] w fun e w' => e = .returned (.tuple #[.int .i32 (57908 + (f - 248) * 94 + (s - 161)), .bool true]) ∧ ∃ n, w' = w.drewN n) := hc
  clear hc
  go_enter Try.func12, Try.ntmps12
  go_wp2_with (go_at_call 28; refine H.out.mono ?_; rintro e w' ⟨rfl, n, rfl⟩)
  go_ret2
  exact ⟨rfl, _, rfl⟩

theorem shim_c (b : Nat) (f s : Int) (h1 : 161 ≤ f) (h2 : f ≤ 167) (h3 : 64 ≤ s) (h4 : s ≤ 127) (w : World)
    (c0 : w.cell? ⟨b, 0, none⟩ = some (.int .u8 f)) (c1 : w.cell? ⟨b, 1, none⟩ = some (.int .u8 s)) :
    Calls Try.prog 12 #[.slice (some ⟨b, 0, none⟩) 2 2] w fun e w' => e = .returned (.tuple #[.int .i32 (58566 + (f - 161) * 96 + (s - 64)), .bool true]) ∧ ∃ n, w' = w.drewN n := by
  have hc := ud_c b f s h1 h2 h3 h4 w c0 c1
  have H : Hid (Calls Try.prog 28 #[.slice (some ⟨b, 0, none⟩) 2 2] w fun e w' => e = .returned (.tuple #[.int .i32 (58566 + (f - 161) * 96 + (s - 64)), .bool true]) ∧ ∃ n, w' = w.drewN n) := hc
  clear hc
  go_enter Try.func12, Try.ntmps12
  go_wp2_with (go_at_call 28; refine H.out.mono ?_; rintro e w' ⟨rfl, n, rfl⟩)
  go_ret2
  exact ⟨rfl, _, rfl⟩

theorem shim_d (b : Nat) (f s : Int) (h1 : 161 ≤ f) (h2 : f ≤ 167) (h3 : 128 ≤ s) (h4 : s ≤ 160) (w : World)
    (c0 : w.cell? ⟨b, 0, none⟩ = some (.int .u8 f)) (c1 : w.cell? ⟨b, 1, none⟩ = some (.int .u8 s)) :
    Calls Try.prog 12 #[.slice (some ⟨b, 0, none⟩) 2 2] w fun e w' => e = .returned (.tuple #[.int .i32 (58566 + (f - 161) * 96 + (s - 64 - 1)), .bool true]) ∧ ∃ n, w' = w.drewN n := by
  have hc := ud_d b f s h1 h2 h3 h4 w c0 c1
  have H : Hid (Calls Try.prog 28 #[.slice (some ⟨b, 0, none⟩) 2 2] w fun e w' => e = .returned (.tuple #[.int .i32 (58566 + (f - 161) * 96 + (s - 64 - 1)), .bool true]) ∧ ∃ n, w' = w.drewN n) := hc
  clear hc
  go_enter Try.func12, Try.ntmps12
  go_wp2_with (go_at_call 28; refine H.out.mono ?_; rintro e w' ⟨rfl, n, rfl⟩)
  go_ret2
  exact ⟨rfl, _, rfl⟩

theorem shim_no (b : Nat) (f s : Int) (hf0 : 0 ≤ f) (hf1 : f ≤ 255) (hs0 : 0 ≤ s) (hs1 : s ≤ 255) (hr : Refused f s) (w : World)
    (c0 : w.cell? ⟨b, 0, none⟩ = some (.int .u8 f)) (c1 : w.cell? ⟨b, 1, none⟩ = some (.int .u8 s)) :
    Calls Try.prog 12 #[.slice (some ⟨b, 0, none⟩) 2 2] w fun e w' => e = .returned (.tuple #[.int .i32 (0), .bool false]) ∧ ∃ n, w' = w.drewN n := by
  have hc := ud_no b f s hf0 hf1 hs0 hs1 hr w c0 c1
  have H : Hid (Calls Try.prog 28 #[.slice (some ⟨b, 0, none⟩) 2 2] w fun e w' => e = .returned (.tuple #[.int .i32 (0), .bool false]) ∧ ∃ n, w' = w.drewN n) := hc
  clear hc
  go_enter Try.func12, Try.ntmps12
  go_wp2_with (go_at_call 28; refine H.out.mono ?_; rintro e w' ⟨rfl, n, rfl⟩)
  go_ret2
  exact ⟨rfl, _, rfl⟩

/-! ### zzInUserDefinedArea (13) -/
theorem in_a (f s : Int) (h1 : 170 ≤ f) (h2 : f ≤ 175) (h3 : 161 ≤ s) (h4 : s ≤ 254) (w : World) :
    Calls Try.prog 13 #[.int .u8 f, .int .u8 s] w fun e w' => e = .returned (.bool true) ∧ w' = w := by
  go_enter Try.func13, Try.ntmps13
  go_wp2
  all_goals (go_ret; exact ⟨rfl, rfl⟩)

theorem in_b (f s : Int) (h1 : 248 ≤ f) (h2 : f ≤ 254) (h3 : 161 ≤ s) (h4 : s ≤ 254) (w : World) :
    Calls Try.prog 13 #[.int .u8 f, .int .u8 s] w fun e w' => e = .returned (.bool true) ∧ w' = w := by
  go_enter Try.func13, Try.ntmps13
  go_wp2
  all_goals (go_ret; exact ⟨rfl, rfl⟩)

theorem in_c (f s : Int) (h1 : 161 ≤ f) (h2 : f ≤ 167) (h3 : 64 ≤ s) (h4 : s ≤ 126) (w : World) :
    Calls Try.prog 13 #[.int .u8 f, .int .u8 s] w fun e w' => e = .returned (.bool true) ∧ w' = w := by
  go_enter Try.func13, Try.ntmps13
  go_wp2
  all_goals (go_ret; exact ⟨rfl, rfl⟩)

theorem in_d (f s : Int) (h1 : 161 ≤ f) (h2 : f ≤ 167) (h3 : 128 ≤ s) (h4 : s ≤ 160) (w : World) :
    Calls Try.prog 13 #[.int .u8 f, .int .u8 s] w fun e w' => e = .returned (.bool true) ∧ w' = w := by
  go_enter Try.func13, Try.ntmps13
  go_wp2
  all_goals (go_ret; exact ⟨rfl, rfl⟩)

theorem in_no (f s : Int) (hf0 : 0 ≤ f) (hf1 : f ≤ 255) (hs0 : 0 ≤ s) (hs1 : s ≤ 255) (hr : Refused f s) (w : World) :
    Calls Try.prog 13 #[.int .u8 f, .int .u8 s] w fun e w' => e = .returned (.bool false) ∧ w' = w := by
  rcases hr with ⟨hs, h | ⟨h, h'⟩ | h⟩ | ⟨hs, h | h⟩
  · go_enter Try.func13, Try.ntmps13
    go_wp2
    all_goals (go_ret; exact ⟨rfl, rfl⟩)
  · go_enter Try.func13, Try.ntmps13
    go_wp2
    all_goals (go_ret; exact ⟨rfl, rfl⟩)
  · go_enter Try.func13, Try.ntmps13
    go_wp2
    all_goals (go_ret; exact ⟨rfl, rfl⟩)
  · go_enter Try.func13, Try.ntmps13
    go_wp2
    all_goals (go_ret; exact ⟨rfl, rfl⟩)
  · go_enter Try.func13, Try.ntmps13
    go_wp2
    all_goals (go_ret; exact ⟨rfl, rfl⟩)

/-! ### zzEncodeUserDefined (14) -/
theorem enc_a (r : Int) (h1 : 57344 ≤ r) (h2 : r < 57908) (w : World) :
    Calls Try.prog 14 #[.int .i32 r] w fun e w' => e = .returned (.tuple #[.int .u8 (170 + (r - 57344) / 94), .int .u8 (161 + (r - 57344) % 94)]) ∧ w' = w := by
  go_enter Try.func14, Try.ntmps14
  go_wp2
  go_ret2
  exact ⟨rfl, rfl⟩

theorem enc_b (r : Int) (h1 : 57908 ≤ r) (h2 : r < 58566) (w : World) :
    Calls Try.prog 14 #[.int .i32 r] w fun e w' => e = .returned (.tuple #[.int .u8 (248 + (r - 57908) / 94), .int .u8 (161 + (r - 57908) % 94)]) ∧ w' = w := by
  go_enter Try.func14, Try.ntmps14
  go_wp2
  go_ret2
  exact ⟨rfl, rfl⟩

theorem enc_c (r : Int) (h1 : 58566 ≤ r) (h2 : r ≤ 59237) (h3 : (r - 58566) % 96 < 63) (w : World) :
    Calls Try.prog 14 #[.int .i32 r] w fun e w' => e = .returned (.tuple #[.int .u8 (161 + (r - 58566) / 96), .int .u8 (64 + (r - 58566) % 96)]) ∧ w' = w := by
  go_enter Try.func14, Try.ntmps14
  go_wp2
  go_ret2
  exact ⟨rfl, rfl⟩

theorem enc_d (r : Int) (h1 : 58566 ≤ r) (h2 : r ≤ 59237) (h3 : 63 ≤ (r - 58566) % 96) (w : World) :
    Calls Try.prog 14 #[.int .i32 r] w fun e w' => e = .returned (.tuple #[.int .u8 (161 + (r - 58566) / 96), .int .u8 (64 + (r - 58566) % 96 + 1)]) ∧ w' = w := by
  go_enter Try.func14, Try.ntmps14
  go_wp2
  go_ret2
  exact ⟨rfl, rfl⟩

/-! ### zzProperTrail (11) -/
theorem trail_lo (s : Int) (h0 : 0 ≤ s) (h : s < 64) (w : World) : Calls Try.prog 11 #[.int .u8 s] w fun e w' => e = .returned (.bool false) ∧ w' = w := by
  go_enter Try.func11, Try.ntmps11
  go_wp2
  all_goals (go_ret; exact ⟨rfl, rfl⟩)

theorem trail_hi (s : Int) (h0 : 254 < s) (h : s ≤ 255) (w : World) : Calls Try.prog 11 #[.int .u8 s] w fun e w' => e = .returned (.bool false) ∧ w' = w := by
  go_enter Try.func11, Try.ntmps11
  go_wp2
  all_goals (go_ret; exact ⟨rfl, rfl⟩)

theorem trail_mid (w : World) : Calls Try.prog 11 #[.int .u8 127] w fun e w' => e = .returned (.bool false) ∧ w' = w := by
  go_enter Try.func11, Try.ntmps11
  go_wp2
  all_goals (go_ret; exact ⟨rfl, rfl⟩)

theorem trail_yes (s : Int) (h0 : 64 ≤ s) (h : s ≤ 254) (hn : s ≠ 127) (w : World) : Calls Try.prog 11 #[.int .u8 s] w fun e w' => e = .returned (.bool true) ∧ w' = w := by
  have hb : (s != 127) = true := by simpa using hn
  go_enter Try.func11, Try.ntmps11
  go_wp2
  all_goals (go_ret; exact ⟨rfl, rfl⟩)

end Go.Proofs.Qxb6600138a.Gb
