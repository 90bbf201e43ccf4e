/-
  'Rows.FnClassesNamedFirstMentionsInOrderSaid' proved. The frame is turned from the seat's shells and the guide's worked law over a slice (Below); the walk is the text Qxb6600138aCnLaw.
-/
import Derived.Test.Qxb6600138aRows
import Derived.Test.Qxb6600138aCnLaw
import Derived.WalkKit
import Derived.ProofKit
import Derived.OpenShut
import Derived.ShutString
import Derived.ChangeOld
import Derived.Below
import Derived.Deep.Matrix
namespace Go.Proofs.Qxb6600138a.fnClassesNamedFirstMentionsInOrder
open Go.ChangeShapes Go.WideShapes Go.ChangeAt Go.RowKit
open Go.ChangeMaps (open_string shut_string)
set_option linter.unusedVariables false

theorem own : ownKnob Try.prog.godebug = none := by kernel_rfl
theorem laidOut : laidOutB Try.prog = true := by kernel_rfl

def blockOf : Option Addr → Nat
  | some a => a.block
  | none => 0
def offOf : Option Addr → Nat
  | some a => a.off
  | none => 0

/-- What the walk is told of the [][]int that came in: it is nil; or it has an address, and the cells of its elements hold slices whose cells hold integers. -/
def IsIn (w : World) (a : Option Addr) (len : Nat) (A : Nat → Option Addr) (L C : Nat → Nat) (Z : Nat → List Int) : Prop :=
  len = 0 ∨ ∃ x, a = some x ∧ ∀ r, r < len → w.cell? (x.add r) = some (.slice (A r) (L r) (C r)) ∧ L r ≤ C r ∧ C r ≤ maxLen ∧ (A r = none → C r = 0) ∧
    ∀ a', A r = some a' → ∀ c, c < C r → w.cell? (a'.add c) = some (.int .i64 ((Z r).getD c 0))

theorem walk (s : ByteArray) (a : Option Addr) (len cap : Nat) (A : Nat → Option Addr) (L C : Nat → Nat) (Z : Nat → List Int) (w : World) (hs : s.size ≤ maxLen) (hl : len ≤ maxLen) (h : IsIn w a len A L C Z) :
    Calls Try.prog 8 #[.string s, .slice a len cap] w fun e w' => e = .returned (.bool true) ∧ Below w.heap.size w w' := by
  rcases h with rfl | ⟨x, rfl, hc⟩
  · exact Cn.law_any s a 0 0 0 cap A L C (fun _ => 0) (fun _ => 0) (fun _ => 0) (fun _ => 0) w (fun h => absurd h (by omega)) hs hl (fun j hj => absurd hj (by omega))
  by_cases h0 : len = 0
  · subst h0
    exact Cn.law_any s (some x) 0 0 0 cap A L C (fun _ => 0) (fun _ => 0) (fun _ => 0) (fun _ => 0) w (fun h => absurd h (by omega)) hs hl (fun j hj => absurd hj (by omega))
  obtain ⟨b, off, spot⟩ := x
  have hspot : spot = none := by simpa [Addr.add] using World.cell?_spot (hc 0 (by omega)).1
  subst hspot
  refine Cn.law_any s (some ⟨b, off, none⟩) b off len cap A L C (fun r => blockOf (A r)) (fun r => offOf (A r)) (fun r => (Z r).getD 2 0) (fun r => (Z r).getD 3 0) w (fun _ => rfl) hs hl (fun j hj => ?_)
  obtain ⟨h1, h2, h3, h4, h5⟩ := hc j hj
  refine ⟨by rw [← add_plain]; exact h1, Nat.le_trans h2 h3, fun hL => ?_⟩
  cases hA : A j with
  | none => have := h4 hA; omega
  | some a' =>
    obtain ⟨b', off', spot'⟩ := a'
    have g2 := h5 _ hA 2 (by omega)
    have g3 := h5 _ hA 3 (by omega)
    have hspot' : spot' = none := by simpa [Addr.add] using World.cell?_spot (h5 _ hA 0 (by omega))
    subst hspot'
    simp only [hA, blockOf, offOf]
    exact ⟨trivial, by rw [add_plain] at g2; exact g2, by rw [add_plain] at g3; exact g3⟩

set_option maxRecDepth 100000 in
theorem lifted (os : Os) (started : os.Started) (H : Type) (enc : TypeId × Value → H) :
    ReturnsInHanded {} Try.checked os 8 .any (Rows.fnClassesNamedFirstMentionsInOrderSpec.pre6 enc Try.prog Try.f8 Rows.fnClassesNamedFirstMentionsInOrderRow.domain false) (Rows.fnClassesNamedFirstMentionsInOrderSpec.post enc Try.prog Try.f8 false true false false) := by
  refine returnsInHanded_of_change (C := Try.checked) own started (by kernel_rfl) Try.func8
    (ChangeSpec.witness6 (enc := enc) (C := Try.checked) false ⟨#[], #[.string ByteArray.empty, .slice none 0 0], []⟩ 8 (by kernel_rfl) (by kernel_rfl) (by kernel_rfl) (by kernel_rfl)) ?_
  intro W base args ds gs before hval0 hW hcnd _
  have hval : ∀ (j : Nat) t v, Try.f8.params[j]? = some t → args[j]? = some v → Value.okWide Try.prog W .any base t v := hval0
  have hW' := hW
  obtain ⟨p, q, hA0, hV, rfl, hfz, hnd⟩ := hW
  have hA : DataW.TrodAll enc Try.prog W 0 (fun _ => true) true Try.f8.params.toList args.toList ds p := hA0
  rw [Try.params8] at hA hval
  obtain ⟨v0, vs0, d0, ds0, p0, q0, hargs, rfl, rfl, h0, r0⟩ := trodAll_cons hA
  obtain ⟨v1, vs1, d1, ds1, p1, q1, rfl, rfl, rfl, h1, r1⟩ := trodAll_cons r0
  obtain ⟨rfl, rfl, rfl⟩ := trodAll_nil r1
  obtain rfl : args = #[v0, v1] := by cases args; simp_all
  obtain ⟨rfl, rfl⟩ := trodVars_none hV
  obtain ⟨s, rfl, rfl, rfl, hs⟩ := open_string Try.underlying9 (hval 0 9 v0 rfl rfl) h0
  obtain ⟨a1, len1, cap1, rfl⟩ := okWide_slice Try.underlying36 (hval 1 36 v1 rfl rfl)
  have k1 := h1
  have lt1 : ∀ x ∈ p1, x.block < W.heap.size := by obtain ⟨m, hm⟩ := k1; exact DataW.trod_lt m _ _ _ hm
  obtain ⟨A, L, C, Z, hl1, w1⟩ : ∃ A L C Z, len1 ≤ maxLen ∧ IsIn W a1 len1 A L C Z := by
    obtain ⟨fuel, hf⟩ := h1
    rcases Deep.open_int_rows Try.underlying36 Try.underlying39 Try.underlying3 (by kernel_rfl) (by kernel_rfl) hf with ⟨hcs, _⟩ | ⟨x, l, c, A, L, C, Z, hcs, _, hl, hm, _, hcell⟩
    · simp [Value.cells] at hcs
      obtain ⟨rfl, rfl, rfl⟩ := hcs
      exact ⟨fun _ => none, fun _ => 0, fun _ => 0, fun _ => [], Nat.zero_le _, .inl rfl⟩
    · simp [Value.cells] at hcs
      obtain ⟨rfl, rfl, rfl⟩ := hcs
      refine ⟨A, L, C, Z, Nat.le_trans hl hm, .inr ⟨x, rfl, fun r hr => ?_⟩⟩
      obtain ⟨c1, c2, c3, c4, c5, c6, c7⟩ := hcell r (by omega)
      exact ⟨c1, c2, c3, c6, fun a' ha' => (c7 a' ha').2⟩
  clear hA0 hval0
  refine (walk s a1 len1 cap1 A L C Z W hs hl1 w1).mono fun e W' ⟨he, bel⟩ => ?_
  subst he
  exact ⟨_, rfl, _, _, _, [], _, [], hW', trodAll_mk1 (shut_bool Try.underlying4 _), (trodAll_cons_mk (shut_string Try.underlying9 hs) (trodAll_cons_mk (Below.trod laidOut (by kernel_rfl) (of_decide_eq_true (by kernel_rfl)) k1 bel lt1) trodAll_mk0)), rfl, bel.frame _, fun h => by cases h⟩

theorem over : Rows.fnClassesNamedFirstMentionsInOrderRow.holds Try.pinned (OpenSpec.ofChange Rows.fnClassesNamedFirstMentionsInOrderSpec) :=
  OpenClaim.holds_of_wide 8 Try.f8 rfl rfl rfl rfl rfl rfl rfl ⟨rfl, rfl, rfl, rfl, rfl⟩ rfl rfl rfl rfl rfl (by kernel_rfl) Try.func8 (by kernel_rfl)
    (of_decide_eq_true (by kernel_rfl)) (by unfold Func.isWrapper; first | (rw [if_pos (by decide +kernel)]; kernel_rfl) | (rw [if_neg (by decide +kernel)]; exact ⟨rfl, rfl⟩))
    (fun os started H enc _ => lifted os started H enc)

theorem proved : Rows.FnClassesNamedFirstMentionsInOrderSaid := over
end Go.Proofs.Qxb6600138a.fnClassesNamedFirstMentionsInOrder

namespace Go.Proofs.Qxb6600138a
theorem classesNamed_holds : Rows.FnClassesNamedFirstMentionsInOrderSaid := fnClassesNamedFirstMentionsInOrder.proved
end Go.Proofs.Qxb6600138a
