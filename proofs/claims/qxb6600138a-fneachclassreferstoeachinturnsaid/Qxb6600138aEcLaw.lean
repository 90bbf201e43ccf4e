/-
  The walk of the law FnEachClassRefersToEachInTurn (6).
-/
import Derived.Test.Qxb6600138aEcEach
import Derived.WalkSpells
import Derived.Laws.CopyOwn
import Derived.Deep.OwnRows
import Derived.Deep.QuietTactic
import Derived.BigQuiet
namespace Go.Proofs.Qxb6600138a.Ec
open Go.ChangeShapes Go.WideShapes Go.ChangeAt Go.RowKit
set_option linter.unusedVariables false

theorem info9 : (Try.prog.info? 9).map (fun i => (i.zero, i.size, i.bytes)) = some (some (.string ByteArray.empty), 1, 16) := by kernel_rfl
theorem size9 : (Try.prog.info? 9).map (·.size) = some 1 := by kernel_rfl

theorem below_draws {B : Nat} {a w : World} (h : Below B a w) (n : Nat) : Below B a (w.drewN n) := ⟨h.os, h.tape, h.output, h.size, h.block⟩

/-- A nil slice. -/
theorem law_nil (w : World) : Calls Try.prog 6 #[.slice none 0 0] w fun e w' => e = .returned (.bool true) ∧ Below w.heap.size w w' := by
  have q31 : ∀ (w : World) (a : Option Addr) (n c n' c' : Nat), (binOp .neq 31 (.slice a n c) (.slice none n' c')).run Try.prog w = .ok (.bool (!a.isNone)) w := fun w a n c n' c' => run_neq_slice_nil_any w _ _ a n c n' c' Try.underlying31
  go_enter Try.func6, Try.ntmps6
  go_wp2_with fail
  refine (bytes_none none 0 _).mono ?_
  rintro e w ⟨⟨v, rfl⟩, rfl⟩
  cases v
  · go_wp2
    go_ret
    exact ⟨rfl, Below.refl _ _⟩
  go_wp2_with fail
  refine (ok_none none 0 _).mono ?_
  rintro e w ⟨⟨v, rfl⟩, rfl⟩
  cases v
  · go_wp2
    go_ret
    exact ⟨rfl, Below.refl _ _⟩
  go_wp2_with fail
  refine (shim_none none 0 _).mono ?_
  rintro e w1 ⟨rfl, rfl⟩
  go_wp2
  go_ret
  exact ⟨rfl, (Below.refl _ _).alloc (Nat.le_refl _) _⟩

/-- An empty slice that is not nil. -/
theorem law_empty (a : Addr) (c : Nat) (w : World) : Calls Try.prog 6 #[.slice (some a) 0 c] w fun e w' => e = .returned (.bool true) ∧ Below w.heap.size w w' := by
  have q31 : ∀ (w : World) (a : Option Addr) (n c n' c' : Nat), (binOp .neq 31 (.slice a n c) (.slice none n' c')).run Try.prog w = .ok (.bool (!a.isNone)) w := fun w a n c n' c' => run_neq_slice_nil_any w _ _ a n c n' c' Try.underlying31
  have hmk := run_make_row' (P := Try.prog) 31 9 (.string ByteArray.empty) 16 Try.underlying31 info9 rfl .i64 .i64 0 (by omega) (by omega)
  simp only [Int.natCast_zero] at hmk
  have hcp : ∀ (w : World) (d : Option Addr), (Builtin.copy_ #[31, 31] 3 #[.slice d 0 0, .slice (some a) 0 c]).run Try.prog w = .ok (.int .i64 0) w := fun w d => run_copy_none (P := Try.prog) w 31 31 3 9 d (some a) 0 0 0 c Try.underlying31 size9 rfl
  go_enter Try.func6, Try.ntmps6
  go_wp2_with fail
  refine (bytes_none (some a) c _).mono ?_
  rintro e w ⟨⟨v, rfl⟩, rfl⟩
  cases v
  · go_wp2
    go_ret
    exact ⟨rfl, Below.refl _ _⟩
  go_wp2_with fail
  refine (ok_none (some a) c _).mono ?_
  rintro e w ⟨⟨v, rfl⟩, rfl⟩
  cases v
  · go_wp2
    go_ret
    exact ⟨rfl, Below.refl _ _⟩
  go_wp2_with fail
  refine (shim_none _ 0 _).mono ?_
  rintro e w1 ⟨rfl, rfl⟩
  go_wp2
  go_ret
  exact ⟨rfl, ((Below.refl _ _).alloc (Nat.le_refl _) _).alloc (by simp) _⟩

/-- The copy that the law makes: a new row of the same strings; below it nothing has turned. -/
theorem copied (w : World) (b off n c : Nat) (S : Nat → ByteArray) (hc : ∀ j, j < n → w.cell? ⟨b, off + j, none⟩ = some (.string (S j))) :
    ∃ W2, (Builtin.copy_ #[31, 31] 3 #[.slice (some ⟨w.heap.size, 0, none⟩) n n, .slice (some ⟨b, off, none⟩) n c]).run Try.prog (w.alloc (.cells (madeCells #[.string ByteArray.empty] n) 9)) = .ok (.int .i64 n) W2 ∧
      Below w.heap.size w W2 ∧ w.heap.size < W2.heap.size ∧ ∀ j, j < n → W2.cell? ⟨w.heap.size, j, none⟩ = some (.string (S j)) := by
  have hnew := heap_alloc_new w (.cells (madeCells #[.string ByteArray.empty] n) 9)
  have hl : ((List.range n).map fun j => Value.string (S j)).length = n := by simp
  have hrun := run_copy_row (P := Try.prog) (w.alloc (.cells (madeCells #[.string ByteArray.empty] n) 9)) 31 31 3 9 w.heap.size 0 n n ⟨b, off, none⟩ n c (madeCells #[.string ByteArray.empty] n) 9
    ((List.range n).map fun j => Value.string (S j)) Try.underlying31 size9 hnew (by simp) (fun j v hv => by
      have hj : j < n := by have := (List.getElem?_eq_some_iff.1 hv).1; simpa using this
      have hb : b < w.heap.size := World.block_lt_of_cell? _ _ (hc j hj)
      rw [Addr.add_lit, World.cell?_alloc_past _ _ _ hb, hc j hj]
      simpa [hj] using hv) (by rw [hl, size_madeCells]; omega) (fun v hv => by
      obtain ⟨j, _, rfl⟩ := List.mem_map.1 hv
      rfl)
  rw [hl] at hrun
  refine ⟨_, hrun, below_setRow ((Below.refl _ _).alloc (Nat.le_refl _) _) (Nat.le_refl _) _, by simp [World.setRow], fun j hj => ?_⟩
  rw [cell_of_row _ _ j _ 9 (0, 0) (setRow_heap _ _ _ _ _ _ hnew)]
  simp only [List.take_zero, List.nil_append, List.getElem?_toArray]
  rw [List.getElem?_append_left (by rw [hl]; exact hj)]
  simp [hj]

set_option maxHeartbeats 1000000 in
/-- A slice with an element. -/
theorem law_full (b off n c : Nat) (S : Nat → ByteArray) (w : World) (h0 : 0 < n) (hn : n ≤ maxLen)
    (hc : ∀ j, j < n → w.cell? ⟨b, off + j, none⟩ = some (.string (S j))) :
    Calls Try.prog 6 #[.slice (some ⟨b, off, none⟩) n c] w fun e w' => e = .returned (.bool true) ∧ Below w.heap.size w w' := by
  have q31 : ∀ (w : World) (a : Option Addr) (n c n' c' : Nat), (binOp .neq 31 (.slice a n c) (.slice none n' c')).run Try.prog w = .ok (.bool (!a.isNone)) w := fun w a n c n' c' => run_neq_slice_nil_any w _ _ a n c n' c' Try.underlying31
  have HC : Hid (∀ j, j < n → w.cell? ⟨b, off + j, none⟩ = some (.string (S j))) := hc
  clear hc
  go_enter Try.func6, Try.ntmps6
  go_wp2_with fail
  refine (bytes_full b off n c S _ hn HC.out).mono ?_
  rintro e w ⟨⟨v, rfl⟩, rfl⟩
  cases v
  · go_wp2
    go_ret
    exact ⟨rfl, Below.refl _ _⟩
  by_cases hbig : 65536 < n
  · have hb' : (65536 : Int) < (n : Int) := by omega
    go_wp2
    go_ret
    exact ⟨rfl, Below.refl _ _⟩
  have hns : n ≤ 65536 := by omega
  go_wp2_with fail
  refine (ok_full b off n c S _ hns HC.out).mono ?_
  rintro e w ⟨⟨v, rfl⟩, rfl⟩
  cases v
  · go_wp2
    go_ret
    exact ⟨rfl, Below.refl _ _⟩
  have hmk := run_make_row' (P := Try.prog) 31 9 (.string ByteArray.empty) 16 Try.underlying31 info9 rfl .i64 .i64 n (by omega) (by omega)
  obtain ⟨W2, hcp, hb2, hs2, hc2⟩ := copied w b off n c S HC.out
  have HC2 : Hid (∀ j, j < n → W2.cell? ⟨w.heap.size, j, none⟩ = some (.string (S j))) := hc2
  have HB2 : Hid (Below w.heap.size w W2) := hb2
  clear hc2 hb2
  go_wp2_with fail
  refine (shim_full w.heap.size 0 n n S W2 h0 hns hs2 (fun j hj => by rw [Nat.zero_add]; exact HC2.out j hj)).mono ?_
  rintro e w3 ⟨rfl, Ps, HG⟩
  have hne : ((n : Int) == 0) = false := by simp; omega
  clear hmk hcp
  go_wp2
  go_loopw [5] (fun i wr => ∃ k nd : Nat, k ≤ n ∧ i = .int .i64 k ∧ wr = w3.drewN nd) (fun i _ => n - (intOf i).toNat)
  case atStart => exact ⟨0, 0, Nat.zero_le _, rfl, rfl⟩
  case round =>
    obtain ⟨k, nd, hk, rfl, rfl⟩ := hrel
    by_cases hlt : k < n
    · obtain ⟨p, hp1, hp2⟩ : ∃ p, w3.cell? ⟨W2.heap.size, k, none⟩ = some (.pointer (some ⟨p, 0, none⟩)) ∧ w3.cell? ⟨p, 0, none⟩ = some (.string (S k)) := by
        obtain ⟨hl, hown, hcc, _⟩ := HG.out
        refine ⟨Ps.getD k 0, ?_, (hcc k hlt).2⟩
        rw [hown.cellAt k (by omega)]
        have hkl : k < Ps.length := by omega
        simp [List.getD, hkl, ptr]
      have hp3 : w3.cell? ⟨w.heap.size, k, none⟩ = some (.string (S k)) := (HG.out.2.2.2.cell (p := ⟨w.heap.size, k, none⟩) hs2).trans (HC2.out k hlt)
      have hlt' : (k : Int) < (n : Int) := by omega
      go_wp2
      go_quiet (fail)
      go_wp2
      go_roundw
      case rel => exact ⟨k + 1, _, by omega, by go_num, rfl⟩
      case measure => simp [intOf]; omega
    · go_wp2
      go_ret
      exact ⟨rfl, below_draws (HB2.out.trans (HG.out.2.2.2.mono (Nat.le_of_lt hs2))) _⟩

end Go.Proofs.Qxb6600138a.Ec
