/-
  The walks of abs (10), signed (11) and their shims ZZabs (8), ZZsigned (9).
-/
import Derived.Test.Qxb6601744aRows
import Derived.WalkKit
import Derived.ProofKit
import Derived.OpenShut
namespace Go.Proofs.Qxb6601744a.Abs
open Go.ChangeShapes Go.WideShapes Go.ChangeAt Go.RowKit
set_option linter.unusedVariables false

/-! ### The plain law: no Go in sight -/
theorem ret_int {k : IntKind} {a b : Int} (h : a = b) : Ending.returned (.int k a) = .returned (.int k b) := by rw [h]

theorem u64_neg (c : Int) (h0 : c < 0) (h1 : -9223372036854775808 ≤ c) : IntKind.u64.wrap (wrap64 (-c)) = -c := by
  rw [IntKind.wrap_u64]
  unfold wrap64
  omega

theorem i64_neg (q : Int) (h0 : 0 ≤ q) (h1 : q ≤ 9223372036854775808) : wrap64 (-wrap64 q) = -q := by
  unfold wrap64
  omega

/-! ### abs (10) and ZZabs (8) -/
theorem abs_pos (c : Int) (h0 : 0 ≤ c) (h1 : c ≤ 9223372036854775807) (w : World) :
    Calls Try.prog 10 #[.int .i64 c] w fun e w' => e = .returned (.int .u64 c) ∧ w' = w := by
  go_enter Try.func10, Try.ntmps10
  go_wp2
  go_ret
  exact ⟨rfl, rfl⟩

theorem abs_neg (c : Int) (h0 : c < 0) (h1 : -9223372036854775808 ≤ c) (w : World) :
    Calls Try.prog 10 #[.int .i64 c] w fun e w' => e = .returned (.int .u64 (-c)) ∧ w' = w := by
  go_enter Try.func10, Try.ntmps10
  go_wp2
  go_ret
  exact ⟨ret_int (u64_neg c h0 h1), rfl⟩

theorem zzabs_pos (c : Int) (h0 : 0 ≤ c) (h1 : c ≤ 9223372036854775807) (w : World) :
    Calls Try.prog 8 #[.int .i64 c] w fun e w' => e = .returned (.int .u64 c) ∧ w' = w := by
  go_enter Try.func8, Try.ntmps8
  go_wp2_with (go_at_call 10; refine (abs_pos c h0 h1 _).mono ?_; rintro e w' ⟨rfl, rfl⟩)
  go_ret
  exact ⟨rfl, rfl⟩

theorem zzabs_neg (c : Int) (h0 : c < 0) (h1 : -9223372036854775808 ≤ c) (w : World) :
    Calls Try.prog 8 #[.int .i64 c] w fun e w' => e = .returned (.int .u64 (-c)) ∧ w' = w := by
  go_enter Try.func8, Try.ntmps8
  go_wp2_with (go_at_call 10; refine (abs_neg c h0 h1 _).mono ?_; rintro e w' ⟨rfl, rfl⟩)
  go_ret
  exact ⟨rfl, rfl⟩

/-! ### signed (11) and ZZsigned (9) -/
theorem signed_pos (q : Int) (h0 : 0 ≤ q) (h1 : q ≤ 9223372036854775807) (w : World) :
    Calls Try.prog 11 #[.int .u64 q, .bool false] w fun e w' => e = .returned (.int .i64 q) ∧ w' = w := by
  go_enter Try.func11, Try.ntmps11
  go_wp2
  go_ret
  exact ⟨rfl, rfl⟩

theorem signed_neg (q : Int) (h0 : 0 ≤ q) (h1 : q ≤ 9223372036854775808) (w : World) :
    Calls Try.prog 11 #[.int .u64 q, .bool true] w fun e w' => e = .returned (.int .i64 (-q)) ∧ w' = w := by
  go_enter Try.func11, Try.ntmps11
  go_wp2
  go_ret
  exact ⟨ret_int (i64_neg q h0 h1), rfl⟩

theorem zzsigned_pos (q : Int) (h0 : 0 ≤ q) (h1 : q ≤ 9223372036854775807) (w : World) :
    Calls Try.prog 9 #[.int .u64 q, .bool false] w fun e w' => e = .returned (.int .i64 q) ∧ w' = w := by
  go_enter Try.func9, Try.ntmps9
  go_wp2_with (go_at_call 11; refine (signed_pos q h0 h1 _).mono ?_; rintro e w' ⟨rfl, rfl⟩)
  go_ret
  exact ⟨rfl, rfl⟩

theorem zzsigned_neg (q : Int) (h0 : 0 ≤ q) (h1 : q ≤ 9223372036854775808) (w : World) :
    Calls Try.prog 9 #[.int .u64 q, .bool true] w fun e w' => e = .returned (.int .i64 (-q)) ∧ w' = w := by
  go_enter Try.func9, Try.ntmps9
  go_wp2_with (go_at_call 11; refine (signed_neg q h0 h1 _).mono ?_; rintro e w' ⟨rfl, rfl⟩)
  go_ret
  exact ⟨rfl, rfl⟩

end Go.Proofs.Qxb6601744a.Abs
