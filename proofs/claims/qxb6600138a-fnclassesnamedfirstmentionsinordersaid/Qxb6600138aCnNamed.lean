/-
  classesNamed (30) and its shim (23).
-/
import Derived.Test.Qxb6600138aCnGuards
import Derived.Test.Qxb6600138aCnPlain
import Derived.WalkSpells
namespace Go.Proofs.Qxb6600138a.Cn
open Go.ChangeShapes Go.WideShapes Go.ChangeAt Go.RowKit
set_option linter.unusedVariables false

theorem info9 : (Try.prog.info? 9).map (fun i => (i.zero, i.size, i.bytes)) = some (some (.string ByteArray.empty), 1, 16) := by kernel_rfl

/-- The j-th mention's own text. -/
def subOf (s : ByteArray) (X Y : Nat → Int) (j : Nat) : ByteArray := s.extract (X j).toNat (Y j).toNat

/-- What a walk needs of the k-th mention, in whatever world that has kept what was there. -/
theorem rows_at {s : ByteArray} {b off n : Nat} {A : Nat → Option Addr} {L C rb ro : Nat → Nat} {X Y : Nat → Int} {w wr : World} (h : IsRows w b off n A L C rb ro X Y) (hf : ∀ j, j < n → Fit s L X Y j)
    (hb : Below w.heap.size w wr) {k : Nat} (hk : k < n) :
    ∃ x y : Nat, wr.cell? ⟨b, off + k, none⟩ = some (.slice (some ⟨rb k, ro k, none⟩) (L k) (C k)) ∧ wr.cell? ⟨rb k, ro k + 2, none⟩ = some (.int .i64 x) ∧ wr.cell? ⟨rb k, ro k + 3, none⟩ = some (.int .i64 y) ∧
      x ≤ y ∧ y ≤ s.size ∧ 4 ≤ L k ∧ L k ≤ 9223372036854775807 ∧ subOf s X Y k = s.extract x y := by
  obtain ⟨h1, h2, h3⟩ := h k hk
  obtain ⟨f1, f2, f3, f4⟩ := hf k hk
  obtain ⟨hA, hX, hY⟩ := h3 f1
  rw [hA] at h1
  have e1 : ((X k).toNat : Int) = X k := by omega
  have e2 : ((Y k).toNat : Int) = Y k := by omega
  refine ⟨(X k).toNat, (Y k).toNat, ?_, ?_, ?_, by omega, by omega, f1, by simpa [maxLen] using h2, rfl⟩
  · rw [hb.cell (p := ⟨b, off + k, none⟩) (World.block_lt_of_cell? _ _ h1)]; exact h1
  · rw [hb.cell (p := ⟨rb k, ro k + 2, none⟩) (World.block_lt_of_cell? _ _ hX), e1]; exact hX
  · rw [hb.cell (p := ⟨rb k, ro k + 3, none⟩) (World.block_lt_of_cell? _ _ hY), e2]; exact hY

/-- What classesNamed has gathered behind k mentions: the value v, in the world wr. -/
def Got (B : Nat) (sub : Nat → ByteArray) (w wr : World) (k : Nat) (v : Value) : Prop :=
  wr.ownsRow B 9 1 v (named sub k).length ((named sub k).map Value.string) ∧ Below B w wr

theorem got_hit {B k : Nat} {sub : Nat → ByteArray} {w wr : World} {v : Value} (h : Got B sub w wr k v) (hh : has (named sub k) (sub k) = true) (nd : Nat) : Got B sub w (wr.drewN nd) (k + 1) v := by
  unfold Got
  rw [named_hit hh]
  exact ⟨h.1, ⟨h.2.os, h.2.tape, h.2.output, h.2.size, h.2.block⟩⟩

theorem got_next {B k nd : Nat} {sub : Nat → ByteArray} {w wr w1 : World} {v v' : Value} {o : Obj} {z : ByteArray} (h : Got B sub w wr k v) (hB : B ≤ wr.heap.size) (hh : has (named sub k) (sub k) = false) (hz : sub k = z)
    (hown : w1.ownsRow B 9 1 v' ((named sub k).length + 1) ((named sub k).map Value.string ++ [.string z])) (hgrow : ((wr.drewN nd).alloc o).grownBy w1 v.ownBlock) :
    ∃ av cap, v' = .slice av (named sub (k + 1)).length cap ∧ Got B sub w w1 (k + 1) (.slice av (named sub (k + 1)).length cap) := by
  subst hz
  have hl : (named sub (k + 1)).length = (named sub k).length + 1 := by rw [named_miss hh]; simp
  have hd : Below B w (wr.drewN nd) := ⟨h.2.os, h.2.tape, h.2.output, h.2.size, h.2.block⟩
  have hb : Below B w w1 := (hd.alloc hB o).grown hgrow (by simp; omega) (fun g hg => (h.1.lt g hg).1)
  rcases hown.2 with ⟨_, h0⟩ | ⟨g, cap', cur, hv, hrest⟩
  · omega
  · subst hv
    refine ⟨some ⟨g, 0, none⟩, cap', by rw [hl], ?_⟩
    unfold Got
    rw [hl, named_miss hh]
    exact ⟨by simpa using hown, hb⟩

theorem got_cell {B k q : Nat} {sub : Nat → ByteArray} {w wr : World} {av : Option Addr} {m cap : Nat} (h : Got B sub w wr k (.slice av m cap)) (hq : q < (named sub k).length) :
    ∃ g, av = some ⟨g, 0, none⟩ ∧ wr.cell? ⟨g, q, none⟩ = some (.string (named sub k)[q]) := by
  obtain ⟨ho, _⟩ := h
  rcases ho.2 with ⟨hv, h0⟩ | ⟨g, cap', cur, hv, _⟩
  · omega
  · simp only [Value.slice.injEq] at hv
    obtain ⟨rfl, rfl, rfl⟩ := hv
    refine ⟨g, rfl, ?_⟩
    rw [ho.cellAt q (by omega)]
    simp [hq]

theorem hide_got {B k : Nat} {sub : Nat → ByteArray} {w wr : World} {v : Value} (h : Got B sub w wr k v) : Hid (Got B sub w wr k v) := h
theorem got_own {B k : Nat} {sub : Nat → ByteArray} {w wr : World} {v : Value} (h : Got B sub w wr k v) (o : Obj) (nd : Nat) : ((wr.alloc o).drewN nd).ownsRow B 9 1 v (named sub k).length ((named sub k).map Value.string) := h.1.alloc o

theorem flag_next {l : List ByteArray} {z e : ByteArray} {q : Nat} (h : q < l.length) (hf : false = has (l.take q) z) (hz : z = e) : (l[q].toList == e.toList) = has (l.take (q + 1)) z := by
  rw [has_take_succ l z q h, ← hf, hz]
  rfl
theorem flag_stays {l : List ByteArray} {z : ByteArray} {q : Nat} (h : q < l.length) (hf : true = has (l.take q) z) : true = has (l.take (q + 1)) z := by
  rw [has_take_succ l z q h, ← hf]
  rfl
theorem flag_end {l : List ByteArray} {z : ByteArray} {q : Nat} {fl : Bool} (h : l.length ≤ q) (hf : fl = has (l.take q) z) : has l z = fl := by
  rw [hf, List.take_of_length_le h]

section
variable (s : ByteArray) (ao : Option Addr) (b off n c : Nat) (A : Nat → Option Addr) (L C rb ro : Nat → Nat) (X Y : Nat → Int) (w : World)

set_option maxHeartbeats 1600000 in
theorem named_any (hao : 0 < n → ao = some ⟨b, off, none⟩) (hn : n ≤ 4096) (h : IsRows w b off n A L C rb ro X Y) (hf : ∀ j, j < n → Fit s L X Y j) :
    Calls Try.prog 30 #[.string s, .slice ao n c] w fun e w' => ∃ av cap, e = .returned (.slice av (named (subOf s X Y) n).length cap) ∧ Hid (Got w.heap.size (subOf s X Y) w w' n (.slice av (named (subOf s X Y) n).length cap)) := by
  have HA : Hid (0 < n → ao = some ⟨b, off, none⟩) := hao
  have HC : Hid (IsRows w b off n A L C rb ro X Y ∧ ∀ j, j < n → Fit s L X Y j) := ⟨h, hf⟩
  clear hao h hf
  obtain ⟨i0, hi, hz0, hz1, hz2⟩ := info_parts info9
  have HI : Hid (Try.prog.info? 9 = some i0 ∧ i0.zero = some (.string ByteArray.empty) ∧ i0.size = 1 ∧ i0.bytes = 16) := ⟨hi, hz0, hz1, hz2⟩
  clear hi hz0 hz1 hz2
  go_enter Try.func30, Try.ntmps30
  go_wp2
  go_loopw [5, 14] (fun v i wr => ∃ k : Nat, k ≤ n ∧ i = .int .i64 k ∧ ∃ av cap, v = .slice av (named (subOf s X Y) k).length cap ∧ Hid (Got w.heap.size (subOf s X Y) w wr k (.slice av (named (subOf s X Y) k).length cap))) (fun _ i _ => n - (intOf i).toNat)
  case atStart => exact ⟨0, Nat.zero_le _, rfl, none, 0, rfl, World.ownsRow_nil _ _ _ _, Below.refl _ _⟩
  case round =>
    obtain ⟨k, hk, rfl, av, cap, rfl, HG⟩ := hrel
    by_cases hlt : k < n
    · obtain rfl := HA.out (by omega)
      obtain ⟨x, y, hc0, hcx, hcy, hxy, hys, hL4, hLm, hsub⟩ := rows_at HC.out.1 HC.out.2 HG.out.2 hlt
      have HS : Hid (subOf s X Y k = s.extract x y) := hsub
      clear hsub
      have l2 : (2 : Int) < (L k : Int) := by omega
      have l3 : (3 : Int) < (L k : Int) := by omega
      have hlen := named_len (subOf s X Y) k
      have hxy' : (x : Int) ≤ (y : Int) := by omega
      have hys' : (y : Int) ≤ (s.size : Int) := by omega
      go_wp2
      go_quiet (fail)
      go_wp2
      go_loop [9, 28] (fun f i => ∃ (q : Nat) (fl : Bool), q ≤ (named (subOf s X Y) k).length ∧ i = .int .i64 q ∧ f = .bool fl ∧ Hid (fl = has ((named (subOf s X Y) k).take q) (subOf s X Y k))) (fun _ i => (named (subOf s X Y) k).length - (intOf i).toNat)
      case atStart => exact ⟨0, false, Nat.zero_le _, rfl, rfl, rfl⟩
      case round =>
        obtain ⟨q, fl, hq, rfl, rfl, HF⟩ := hrel
        by_cases hql : q < (named (subOf s X Y) k).length
        · obtain ⟨g, hav, hcg⟩ := got_cell HG.out hql
          subst hav
          have hq' : (q : Int) < ((named (subOf s X Y) k).length : Int) := by omega
          cases fl
          · have HF2 : Hid (((named (subOf s X Y) k)[q].toList == (s.extract x y).toList) = has ((named (subOf s X Y) k).take (q + 1)) (subOf s X Y k)) := flag_next hql HF.out HS.out
            clear HF
            go_wp2
            go_round
            case rel => exact ⟨q + 1, _, by omega, by go_num, rfl, HF2⟩
            case measure => simp [intOf]; omega
          · have HF2 : Hid (true = has ((named (subOf s X Y) k).take (q + 1)) (subOf s X Y k)) := flag_stays hql HF.out
            clear HF
            go_wp2
            go_round
            case rel => exact ⟨q + 1, _, by omega, by go_num, rfl, HF2⟩
            case measure => simp [intOf]; omega
        · have HF2 : Hid (has (named (subOf s X Y) k) (subOf s X Y k) = fl) := flag_end (by omega) HF.out
          clear HF
          have hBs : w.heap.size ≤ wr.heap.size := HG.out.2.size
          cases fl
          · go_wp2_with (at_builtin; refine wpList_append_own _ rfl _ _ 31 rfl w.heap.size 9 i0 (.string ByteArray.empty) 1 16 Try.underlying31 HI.out.1 HI.out.2.1 HI.out.2.2.1 HI.out.2.2.2 rfl (by decide) _ _ _ rfl (got_own HG.out _ _) ⟨wr.heap.size, 0, none⟩ 1 1 [.string (s.extract x y)] rfl rfl ?c1 ?c2 ?c3 ?c4 ?c5 ?_)
            case c1 =>
              intro j u hj
              match j, hj with
              | 0, hj => simp at hj; subst hj; rw [World.cell?_alloc_at _ _ _ _ (by simp)]; rfl
            case c2 => first | rfl | (intro u hu; simp at hu; subst hu; rfl)
            case c3 => unfold maxLen; omega
            case c4 => omega
            case c5 => first | omega | (simp; omega)
            · intro v' w1 hown hgrow _
              obtain ⟨av2, cap2, hv2, hG2⟩ := got_next HG.out hBs HF2.out HS.out hown hgrow
              have HG2 : Hid (Got w.heap.size (subOf s X Y) w w1 (k + 1) (.slice av2 (named (subOf s X Y) (k + 1)).length cap2)) := hG2
              clear hown hgrow hG2
              subst hv2
              go_wp2
              go_roundw
              case rel => exact ⟨k + 1, by omega, by go_num, av2, cap2, rfl, HG2⟩
              case measure => simp [intOf]; omega
          · have HG2 := fun nd => hide_got (got_hit HG.out HF2.out nd)
            go_wp2
            go_roundw
            case rel => exact ⟨k + 1, by omega, by go_num, av, cap, by rw [named_hit HF2.out], by rw [named_hit HF2.out]; exact HG2 _⟩
            case measure => simp [intOf]; omega
    · obtain rfl : k = n := by omega
      go_wp2
      go_ret
      exact ⟨av, cap, rfl, HG⟩

/-! ### The shim (23) -/
theorem shim_any (hao : 0 < n → ao = some ⟨b, off, none⟩) (hn : n ≤ 4096) (h : IsRows w b off n A L C rb ro X Y) (hf : ∀ j, j < n → Fit s L X Y j) :
    Calls Try.prog 23 #[.string s, .slice ao n c] w fun e w' => ∃ av cap, e = .returned (.slice av (named (subOf s X Y) n).length cap) ∧ Hid (Got w.heap.size (subOf s X Y) w w' n (.slice av (named (subOf s X Y) n).length cap)) := by
  have HA : Hid (0 < n → ao = some ⟨b, off, none⟩) := hao
  have HC : Hid (IsRows w b off n A L C rb ro X Y ∧ ∀ j, j < n → Fit s L X Y j) := ⟨h, hf⟩
  clear hao h hf
  go_enter Try.func23, Try.ntmps23
  go_wp2_with (go_at_call 30; refine (named_any s ao b off n c A L C rb ro X Y w HA.out hn HC.out.1 HC.out.2).mono ?_; rintro e w' ⟨av, cap, rfl, HG⟩)
  go_ret
  exact ⟨_, _, rfl, HG⟩

end
end Go.Proofs.Qxb6600138a.Cn
