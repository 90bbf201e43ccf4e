/-
  The guards of the law on classesNamed: zzBytes_FnClassesNamedFirstMentionsInOrder (20), zzNestedBytesOK (21): each returns some bool and turns nothing; zzMentionsFit (22): it returns true only where every mention fits.
-/
import Derived.Test.Qxb6600138aRows
import Derived.WalkKit
import Derived.ProofKit
import Derived.OpenShut
import Derived.Deep.QuietTactic
import Derived.BigQuiet
namespace Go.Proofs.Qxb6600138a.Cn
open Go.ChangeShapes Go.WideShapes Go.ChangeAt Go.RowKit
set_option linter.unusedVariables false

/-- The call has returned one bool. -/
def SomeBool (e : Ending) : Prop := ∃ v : Bool, e = .returned (.bool v)
theorem someBool (v : Bool) : SomeBool (.returned (.bool v)) := ⟨v, rfl⟩

/-- WHAT THE WALKS ARE TOLD OF A [][]int: cell j of the outer row (block b, from off on) holds the slice 'A j' of length 'L j'; where that has four elements or more it begins at block 'rb j', place 'ro j', and its third and fourth hold 'X j' and 'Y j'. -/
def IsRows (w : World) (b off n : Nat) (A : Nat → Option Addr) (L C rb ro : Nat → Nat) (X Y : Nat → Int) : Prop :=
  ∀ j, j < n → w.cell? ⟨b, off + j, none⟩ = some (.slice (A j) (L j) (C j)) ∧ L j ≤ maxLen ∧
    (4 ≤ L j → A j = some ⟨rb j, ro j, none⟩ ∧ w.cell? ⟨rb j, ro j + 2, none⟩ = some (.int .i64 (X j)) ∧ w.cell? ⟨rb j, ro j + 3, none⟩ = some (.int .i64 (Y j)))

/-- The j-th mention fits the text. -/
def Fit (s : ByteArray) (L : Nat → Nat) (X Y : Nat → Int) (j : Nat) : Prop := 4 ≤ L j ∧ 0 ≤ X j ∧ X j ≤ Y j ∧ Y j ≤ s.size

/-- The call has returned one bool, true only where the first n mentions fit. -/
def FitEnd (s : ByteArray) (n : Nat) (L : Nat → Nat) (X Y : Nat → Int) (e : Ending) : Prop := ∃ v : Bool, e = .returned (.bool v) ∧ (v = true → ∀ j, j < n → Fit s L X Y j)
theorem fitEnd_no (s : ByteArray) (n : Nat) (L : Nat → Nat) (X Y : Nat → Int) : FitEnd s n L X Y (.returned (.bool false)) := ⟨false, rfl, fun h => by cases h⟩
theorem fitEnd_yes {s : ByteArray} {n : Nat} {L : Nat → Nat} {X Y : Nat → Int} (h : ∀ j, j < n → Fit s L X Y j) : FitEnd s n L X Y (.returned (.bool true)) := ⟨true, rfl, fun _ => h⟩

theorem fit_step {s : ByteArray} {L : Nat → Nat} {X Y : Nat → Int} {k : Nat} (h : ∀ j, j < k → Fit s L X Y j) (h1 : 4 ≤ L k) (h2 : ¬ X k < 0) (h3 : ¬ Y k < X k) (h4 : ¬ (s.size : Int) < Y k) : ∀ j, j < k + 1 → Fit s L X Y j := by
  intro j hj
  by_cases e : j = k
  · subst e
    exact ⟨h1, by omega, by omega, by omega⟩
  · exact h j (by omega)

section
variable (s : ByteArray) (ao : Option Addr) (b off n c : Nat) (A : Nat → Option Addr) (L C rb ro : Nat → Nat) (X Y : Nat → Int) (w : World)

/-! ### zzBytes_FnClassesNamedFirstMentionsInOrder (20) -/
theorem bytes_any (hao : 0 < n → ao = some ⟨b, off, none⟩) (hn : n ≤ maxLen) (h : IsRows w b off n A L C rb ro X Y) :
    Calls Try.prog 20 #[.string s, .slice ao n c] w fun e w' => SomeBool e ∧ w' = w := by
  unfold maxLen at hn
  have HA : Hid (0 < n → ao = some ⟨b, off, none⟩) := hao
  have HC : Hid (IsRows w b off n A L C rb ro X Y) := h
  clear hao h
  go_enter Try.func20, Try.ntmps20
  go_wp2
  all_goals try (go_ret; exact ⟨someBool _, rfl⟩)
  go_loop [5, 6] (fun t i => ∃ (k : Nat) (q : Int), k ≤ n ∧ i = .int .i64 k ∧ t = .int .i64 q) (fun _ i => n - (intOf i).toNat)
  case atStart => exact ⟨0, _, Nat.zero_le _, rfl, rfl⟩
  case round =>
    obtain ⟨k, q, hk, rfl, rfl⟩ := hrel
    by_cases hlt : k < n
    · obtain rfl := HA.out (by omega)
      have hcell := (HC.out k hlt).1
      go_wp2
      · go_ret
        exact ⟨someBool _, rfl⟩
      · go_ret
        exact ⟨someBool _, rfl⟩
      · go_round
        case rel => exact ⟨k + 1, _, by omega, by go_num, rfl⟩
        case measure => simp [intOf]; omega
    · go_wp2
      go_ret
      exact ⟨someBool _, rfl⟩

/-! ### zzNestedBytesOK (21) -/
theorem nested_any (hao : 0 < n → ao = some ⟨b, off, none⟩) (hn : n ≤ 4096) (h : IsRows w b off n A L C rb ro X Y) :
    Calls Try.prog 21 #[.string s, .slice ao n c] w fun e w' => SomeBool e ∧ w' = w := by
  have HA : Hid (0 < n → ao = some ⟨b, off, none⟩) := hao
  have HC : Hid (IsRows w b off n A L C rb ro X Y) := h
  clear hao h
  go_enter Try.func21, Try.ntmps21
  go_wp2
  go_loop [5, 6] (fun t i => ∃ (k : Nat) (q : Int), k ≤ n ∧ i = .int .i64 k ∧ t = .int .i64 q) (fun _ i => n - (intOf i).toNat)
  case atStart => exact ⟨0, _, Nat.zero_le _, rfl, rfl⟩
  case round =>
    obtain ⟨k, q, hk, rfl, rfl⟩ := hrel
    by_cases hlt : k < n
    · obtain rfl := HA.out (by omega)
      have hcell := (HC.out k hlt).1
      go_wp2
      · go_ret
        exact ⟨someBool _, rfl⟩
      · go_round
        case rel => exact ⟨k + 1, _, by omega, by go_num, rfl⟩
        case measure => simp [intOf]; omega
    · go_wp2
      go_ret
      exact ⟨someBool _, rfl⟩

/-! ### zzMentionsFit (22) -/
set_option maxHeartbeats 800000 in
theorem fit_any (hao : 0 < n → ao = some ⟨b, off, none⟩) (hn : n ≤ 4096) (h : IsRows w b off n A L C rb ro X Y) :
    Calls Try.prog 22 #[.string s, .slice ao n c] w fun e w' => FitEnd s n L X Y e ∧ ∃ nd, w' = w.drewN nd := by
  have HA : Hid (0 < n → ao = some ⟨b, off, none⟩) := hao
  have HC : Hid (IsRows w b off n A L C rb ro X Y) := h
  clear hao h
  go_enter Try.func22, Try.ntmps22
  go_wp2
  go_loopw [5] (fun i wr => ∃ k nd : Nat, k ≤ n ∧ i = .int .i64 k ∧ wr = w.drewN nd ∧ Hid (∀ j, j < k → Fit s L X Y j)) (fun i _ => n - (intOf i).toNat)
  case atStart => exact ⟨0, 0, Nat.zero_le _, rfl, rfl, fun j hj => absurd hj (by omega)⟩
  case round =>
    obtain ⟨k, nd, hk, rfl, rfl, HF⟩ := hrel
    by_cases hlt : k < n
    · obtain rfl := HA.out (by omega)
      obtain ⟨hcell, hm, h4⟩ := HC.out k hlt
      unfold maxLen at hm
      by_cases hL : L k < 4
      · clear h4
        go_wp2
        go_ret
        exact ⟨fitEnd_no _ _ _ _ _, _, rfl⟩
      · obtain ⟨hAk, hX, hY⟩ := h4 (by omega)
        rw [hAk] at hcell
        have l2 : (2 : Int) < (L k : Int) := by omega
        have l3 : (3 : Int) < (L k : Int) := by omega
        have hL4 : ¬ (L k : Int) < 4 := by omega
        by_cases c1 : X k < 0
        · have d1 : decide (X k < 0) = true := by simpa using c1
          go_wp2
          go_quiet (fail)
          go_wp2
          go_ret
          exact ⟨fitEnd_no _ _ _ _ _, _, World.drewN_drewN ..⟩
        · have d1 : decide (X k < 0) = false := by simpa using c1
          by_cases c2 : Y k < X k
          · have d2 : decide (Y k < X k) = true := by simpa using c2
            go_wp2
            go_quiet (fail)
            go_wp2
            go_ret
            exact ⟨fitEnd_no _ _ _ _ _, _, World.drewN_drewN ..⟩
          · have d2 : decide (Y k < X k) = false := by simpa using c2
            by_cases c3 : (s.size : Int) < Y k
            · have d3 : decide ((s.size : Int) < Y k) = true := by simpa using c3
              go_wp2
              go_quiet (fail)
              go_wp2
              go_ret
              exact ⟨fitEnd_no _ _ _ _ _, _, World.drewN_drewN ..⟩
            · have d3 : decide ((s.size : Int) < Y k) = false := by simpa using c3
              have HF2 : Hid (∀ j, j < k + 1 → Fit s L X Y j) := fit_step HF.out (by omega) c1 c2 c3
              go_wp2
              go_quiet (fail)
              go_wp2
              go_roundw
              case rel => exact ⟨k + 1, _, by omega, by go_num, rfl, HF2⟩
              case measure => simp [intOf]; omega
    · obtain rfl : k = n := by omega
      go_wp2
      go_ret
      exact ⟨fitEnd_yes HF.out, _, rfl⟩

end
end Go.Proofs.Qxb6600138a.Cn
