/-
  eachClass (29) and its shim (18).
-/
import Derived.Test.Qxb6600138aEcGuards
namespace Go.Proofs.Qxb6600138a.Ec
open Go.ChangeShapes Go.WideShapes Go.ChangeAt Go.RowKit
set_option linter.unusedVariables false

theorem info35 : (Try.prog.info? 35).map (fun i => (i.zero, i.size, i.bytes)) = some (some (.pointer none), 1, 8) := by kernel_rfl

/-- A reference to the head of block p. -/
def ptr (p : Nat) : Value := .pointer (some ⟨p, 0, none⟩)

/-- What the loop has gathered: k references, each to a block of its own that holds the string. -/
def Gathered (B g n : Nat) (S : Nat → ByteArray) (w wr : World) (k : Nat) (Ps : List Nat) : Prop :=
  Ps.length = k ∧ wr.ownsRow B 35 1 (.slice (some ⟨g, 0, none⟩) k n) k (Ps.map ptr) ∧
    (∀ j, j < k → Ps.getD j 0 ≠ g ∧ wr.cell? ⟨Ps.getD j 0, 0, none⟩ = some (.string (S j))) ∧ Below B w wr

theorem gathered_step {B g n k : Nat} {S : Nat → ByteArray} {w wr w1 : World} {Ps : List Nat} (h : Gathered B g n S w wr k Ps) (hg : g < wr.heap.size) (hBg : B ≤ g) (hB : B ≤ wr.heap.size)
    (hown : w1.ownsRow B 35 1 (.slice (some ⟨g, 0, none⟩) (k + 1) n) (k + 1) (Ps.map ptr ++ [ptr wr.heap.size]))
    (hgrow : ((wr.alloc (.cells #[.string (S k)] 9)).alloc (.cells #[ptr wr.heap.size] 35)).grownBy w1 (some g)) :
    Gathered B g n S w w1 (k + 1) (Ps ++ [wr.heap.size]) := by
  obtain ⟨hl, ho, hc, hb⟩ := h
  refine ⟨by simp [hl], by simpa using hown, fun j hj => ?_, ?_⟩
  · by_cases hjk : j < k
    · have e : (Ps ++ [wr.heap.size]).getD j 0 = Ps.getD j 0 := by
        simp only [List.getD]
        rw [List.getElem?_append_left (by omega)]
      rw [e]
      have h1 := hc j hjk
      generalize Ps.getD j 0 = p at h1
      refine ⟨h1.1, hgrow.cell ?_ (by simpa using h1.1)⟩
      have hlt : p < wr.heap.size := World.block_lt_of_cell? _ _ h1.2
      rw [World.cell?_alloc_past _ _ _ (by rw [World.size_alloc]; omega), World.cell?_alloc_past _ _ _ hlt]
      exact h1.2
    · have hj' : j = k := by omega
      subst hj'
      have e : (Ps ++ [wr.heap.size]).getD j 0 = wr.heap.size := by simp [List.getD, ← hl]
      rw [e]
      refine ⟨by omega, hgrow.cell ?_ (by simp; omega)⟩
      simp
  · exact ((hb.alloc hB _).alloc (by simp; omega) _).grown hgrow (by simp; omega) (fun k hk => by simp at hk; omega)

set_option maxHeartbeats 800000 in
theorem each_full (b off n c : Nat) (S : Nat → ByteArray) (w : World) (h0 : 0 < n) (hn : n ≤ 65536) (hbB : b < w.heap.size)
    (hc : ∀ j, j < n → w.cell? ⟨b, off + j, none⟩ = some (.string (S j))) :
    Calls Try.prog 29 #[.slice (some ⟨b, off, none⟩) n c] w fun e w' =>
      e = .returned (.slice (some ⟨w.heap.size, 0, none⟩) n n) ∧ ∃ Ps, Gathered w.heap.size w.heap.size n S w w' n Ps := by
  have HC : Hid (∀ j, j < n → w.cell? ⟨b, off + j, none⟩ = some (.string (S j))) := hc
  clear hc
  obtain ⟨i0, hi, hz0, hz1, hz2⟩ := info_parts info35
  have hne : ((n : Int) == 0) = false := by simp; omega
  have hbytes : i0.bytes * n ≤ 281474976710656 := by rw [hz2]; omega
  have hml : n ≤ maxLen := by unfold maxLen; omega
  have HI : Hid (Try.prog.info? 35 = some i0 ∧ i0.zero = some (.pointer none) ∧ i0.size = 1 ∧ i0.bytes * n ≤ 281474976710656) := ⟨hi, hz0, hz1, hbytes⟩
  clear hi hz0 hz1 hz2 hbytes
  go_enter Try.func29, Try.ntmps29
  go_wp2_with (at_make; refine wpList_make_own _ rfl _ _ 33 rfl w.heap.size 35 i0 (.pointer none) 1 Try.underlying33 HI.out.1 HI.out.2.1 HI.out.2.2.1 _ _ _ n rfl rfl (by omega) HI.out.2.2.2 hml (Nat.le_refl _) ?_)
  intro w1 hown hgrow
  have hG : Hid (Gathered w.heap.size w.heap.size n S w w1 0 []) := ⟨rfl, hown, fun j hj => absurd hj (by omega), (Below.refl _ _).grown hgrow (Nat.le_refl _) (fun k hk => by cases hk)⟩
  clear hown hgrow
  go_wp2
  go_loopw [3, 15] (fun v i wr => ∃ k : Nat, k ≤ n ∧ i = .int .i64 k ∧ v = .slice (some ⟨w.heap.size, 0, none⟩) k n ∧ ∃ Ps, Hid (Gathered w.heap.size w.heap.size n S w wr k Ps)) (fun _ i _ => n - (intOf i).toNat)
  case atStart => exact ⟨0, Nat.zero_le _, rfl, rfl, [], hG⟩
  case round =>
    obtain ⟨k, hk, rfl, rfl, Ps, hR⟩ := hrel
    clear hG
    by_cases hlt : k < n
    · have hcell : wr.cell? ⟨b, off + k, none⟩ = some (.string (S k)) := (hR.out.2.2.2.cell hbB).trans (HC.out k hlt)
      have hown := hR.out.2.1
      have hgs : w.heap.size < wr.heap.size := (hown.lt _ rfl).2
      have HO : Hid (wr.ownsRow w.heap.size 35 1 (.slice (some ⟨w.heap.size, 0, none⟩) k n) k (Ps.map ptr)) := hown
      clear hown
      go_wp2_with (at_builtin; refine wpList_append_fits _ rfl _ _ 33 rfl w.heap.size 35 i0 1 Try.underlying33 HI.out.1 HI.out.2.2.1 w.heap.size k n (Ps.map ptr) rfl ((HO.out.alloc _).alloc _) ⟨wr.heap.size + 1, 0, none⟩ 1 1 [ptr wr.heap.size] rfl rfl ?c1 ?c2 (by omega) ?_)
      case c1 =>
        intro j u hj
        match j, hj with
        | 0, hj => simp at hj; subst hj; simp [Addr.add, ptr]
      case c2 => intro u hu; simp at hu; subst hu; rfl
      · intro w2 hown2 hgrow2
        have hG2 : Hid (Gathered w.heap.size w.heap.size n S w w2 (k + 1) (Ps ++ [wr.heap.size])) := gathered_step hR.out hgs (Nat.le_refl _) (by omega) hown2 hgrow2
        clear hown2 hgrow2 HO hR
        go_wp2
        go_roundw
        case rel => exact ⟨k + 1, by omega, by go_num, rfl, _, hG2⟩
        case measure => simp [intOf]; omega
    · obtain rfl : k = n := by omega
      go_wp2
      go_ret
      exact ⟨rfl, Ps, hR⟩

/-- No element: the answer is one nil reference. -/
theorem each_none (ao : Option Addr) (c : Nat) (w : World) :
    Calls Try.prog 29 #[.slice ao 0 c] w fun e w' =>
      e = .returned (.slice (some ⟨w.heap.size, 0, none⟩) 1 1) ∧ w' = w.alloc (.cells #[.pointer none] 35) := by
  go_enter Try.func29, Try.ntmps29
  go_wp2
  go_ret
  exact ⟨rfl, rfl⟩

/-! ### The shim (18) -/
theorem shim_full (b off n c : Nat) (S : Nat → ByteArray) (w : World) (h0 : 0 < n) (hn : n ≤ 65536) (hbB : b < w.heap.size)
    (hc : ∀ j, j < n → w.cell? ⟨b, off + j, none⟩ = some (.string (S j))) :
    Calls Try.prog 18 #[.slice (some ⟨b, off, none⟩) n c] w fun e w' =>
      e = .returned (.slice (some ⟨w.heap.size, 0, none⟩) n n) ∧ ∃ Ps, Hid (Gathered w.heap.size w.heap.size n S w w' n Ps) := by
  have HC : Hid (∀ j, j < n → w.cell? ⟨b, off + j, none⟩ = some (.string (S j))) := hc
  clear hc
  go_enter Try.func18, Try.ntmps18
  go_wp2_with (go_at_call 29; refine (each_full b off n c S w h0 hn hbB HC.out).mono ?_; rintro e w' ⟨rfl, Ps, hG⟩; have HG : Hid (Gathered w.heap.size w.heap.size n S w w' n Ps) := hG; clear hG)
  go_ret
  exact ⟨rfl, _, HG⟩

theorem shim_none (ao : Option Addr) (c : Nat) (w : World) :
    Calls Try.prog 18 #[.slice ao 0 c] w fun e w' =>
      e = .returned (.slice (some ⟨w.heap.size, 0, none⟩) 1 1) ∧ w' = w.alloc (.cells #[.pointer none] 35) := by
  go_enter Try.func18, Try.ntmps18
  go_wp2_with (go_at_call 29; refine (each_none ao c w).mono ?_; rintro e w' ⟨rfl, rfl⟩)
  go_ret
  exact ⟨rfl, rfl⟩

end Go.Proofs.Qxb6600138a.Ec
