/-
  The two guards of the law on eachClass: zzBytes_FnEachClassRefersToEachInTurn (16) and zzClassesBytesOK (17): each returns some bool and turns nothing.
-/
import Derived.Test.Qxb6600138aRows
import Derived.WalkKit
import Derived.ProofKit
import Derived.OpenShut
namespace Go.Proofs.Qxb6600138a.Ec
open Go.ChangeShapes Go.WideShapes Go.ChangeAt Go.RowKit
set_option linter.unusedVariables false

/-- What the walks are told of a []string: where it has an element, it has an address, and cell j holds the string 'S j'. -/
def IsStrs (w : World) (ao : Option Addr) (n : Nat) (S : Nat → ByteArray) : Prop :=
  n = 0 ∨ ∃ b off, ao = some ⟨b, off, none⟩ ∧ ∀ j, j < n → w.cell? ⟨b, off + j, none⟩ = some (.string (S j))

/-- The call has returned one bool. -/
def SomeBool (e : Ending) : Prop := ∃ v : Bool, e = .returned (.bool v)
theorem someBool (v : Bool) : SomeBool (.returned (.bool v)) := ⟨v, rfl⟩

/-! ### zzBytes_FnEachClassRefersToEachInTurn (16) -/
theorem bytes_full (b off n c : Nat) (S : Nat → ByteArray) (w : World) (hn : n ≤ maxLen)
    (hc : ∀ j, j < n → w.cell? ⟨b, off + j, none⟩ = some (.string (S j))) :
    Calls Try.prog 16 #[.slice (some ⟨b, off, none⟩) n c] w fun e w' => SomeBool e ∧ w' = w := by
  unfold maxLen at hn
  have HC : Hid (∀ j, j < n → w.cell? ⟨b, off + j, none⟩ = some (.string (S j))) := hc
  clear hc
  go_enter Try.func16, Try.ntmps16
  go_wp2
  · go_ret
    exact ⟨someBool _, rfl⟩
  · go_loop [3, 4] (fun t i => ∃ (k : Nat) (q : Int), k ≤ n ∧ i = .int .i64 k ∧ t = .int .i64 q) (fun _ i => n - (intOf i).toNat)
    case atStart => exact ⟨0, _, Nat.zero_le _, rfl, rfl⟩
    case round =>
      obtain ⟨k, q, hk, rfl, rfl⟩ := hrel
      by_cases hlt : k < n
      · have hcell := HC.out k hlt
        go_wp2
        · go_ret
          exact ⟨someBool _, rfl⟩
        · go_ret
          exact ⟨someBool _, rfl⟩
        · go_round
          case rel => exact ⟨k + 1, _, by omega, by go_num, rfl⟩
          case measure => simp [intOf]; omega
      · go_wp2
        go_ret
        exact ⟨someBool _, rfl⟩

theorem bytes_none (ao : Option Addr) (c : Nat) (w : World) :
    Calls Try.prog 16 #[.slice ao 0 c] w fun e w' => SomeBool e ∧ w' = w := by
  go_enter Try.func16, Try.ntmps16
  go_wp2
  refine wp_loop_rounds 1 ?_
  rw [rounds_succ]
  go_wp2
  go_ret
  exact ⟨someBool _, rfl⟩

theorem bytes_any (ao : Option Addr) (n c : Nat) (S : Nat → ByteArray) (w : World) (hn : n ≤ maxLen) (h : IsStrs w ao n S) :
    Calls Try.prog 16 #[.slice ao n c] w fun e w' => SomeBool e ∧ w' = w := by
  rcases h with rfl | ⟨b, off, rfl, hc⟩
  · exact bytes_none ao c w
  · exact bytes_full b off n c S w hn hc

/-! ### zzClassesBytesOK (17) -/
theorem ok_full (b off n c : Nat) (S : Nat → ByteArray) (w : World) (hn : n ≤ 65536)
    (hc : ∀ j, j < n → w.cell? ⟨b, off + j, none⟩ = some (.string (S j))) :
    Calls Try.prog 17 #[.slice (some ⟨b, off, none⟩) n c] w fun e w' => SomeBool e ∧ w' = w := by
  have HC : Hid (∀ j, j < n → w.cell? ⟨b, off + j, none⟩ = some (.string (S j))) := hc
  clear hc
  go_enter Try.func17, Try.ntmps17
  go_wp2
  go_loop [3, 4] (fun t i => ∃ (k : Nat) (q : Int), k ≤ n ∧ i = .int .i64 k ∧ t = .int .i64 q) (fun _ i => n - (intOf i).toNat)
  case atStart => exact ⟨0, _, Nat.zero_le _, rfl, rfl⟩
  case round =>
    obtain ⟨k, q, hk, rfl, rfl⟩ := hrel
    by_cases hlt : k < n
    · have hcell := HC.out k hlt
      go_wp2
      · go_ret
        exact ⟨someBool _, rfl⟩
      · go_round
        case rel => exact ⟨k + 1, _, by omega, by go_num, rfl⟩
        case measure => simp [intOf]; omega
    · go_wp2
      go_ret
      exact ⟨someBool _, rfl⟩

theorem ok_none (ao : Option Addr) (c : Nat) (w : World) :
    Calls Try.prog 17 #[.slice ao 0 c] w fun e w' => SomeBool e ∧ w' = w := by
  go_enter Try.func17, Try.ntmps17
  go_wp2
  refine wp_loop_rounds 1 ?_
  rw [rounds_succ]
  go_wp2
  go_ret
  exact ⟨someBool _, rfl⟩

theorem ok_any (ao : Option Addr) (n c : Nat) (S : Nat → ByteArray) (w : World) (hn : n ≤ 65536) (h : IsStrs w ao n S) :
    Calls Try.prog 17 #[.slice ao n c] w fun e w' => SomeBool e ∧ w' = w := by
  rcases h with rfl | ⟨b, off, rfl, hc⟩
  · exact ok_none ao c w
  · exact ok_full b off n c S w hn hc

end Go.Proofs.Qxb6600138a.Ec
