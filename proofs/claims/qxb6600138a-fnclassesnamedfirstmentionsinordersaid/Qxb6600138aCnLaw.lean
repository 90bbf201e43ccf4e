/-
  The walk of the law FnClassesNamedFirstMentionsInOrder (8).
-/
import Derived.Test.Qxb6600138aCnNamed
namespace Go.Proofs.Qxb6600138a.Cn
open Go.ChangeShapes Go.WideShapes Go.ChangeAt Go.RowKit
set_option linter.unusedVariables false

theorem below_draws {B : Nat} {a w : World} (h : Below B a w) (n : Nat) : Below B a (w.drewN n) := ⟨h.os, h.tape, h.output, h.size, h.block⟩

/-- Draws ahead of the call of classesNamed turn nothing. -/
theorem got_undrawn {sub : Nat → ByteArray} {w w1 : World} {n nd : Nat} {v : Value} (h : Got (w.drewN nd).heap.size sub (w.drewN nd) w1 n v) : Got w.heap.size sub w w1 n v :=
  ⟨h.1, ⟨h.2.os, h.2.tape, h.2.output, h.2.size, h.2.block⟩⟩

theorem before_next {sub : Nat → ByteArray} {z a e : ByteArray} {q : Nat} {r : Bool} (hf : false = before sub z q) (hq : sub q = a) (hz : z = e) (hr : (a.toList == e.toList) = r) : r = before sub z (q + 1) := by
  rw [before_succ, ← hf, ← hr, hq, hz]
  rfl
theorem before_stays {sub : Nat → ByteArray} {z : ByteArray} {q : Nat} (hf : true = before sub z q) : true = before sub z (q + 1) := by
  rw [before_succ, ← hf]
  rfl

/-- Where no earlier mention named it, the answer holds the j-th mention behind those that the earlier ones named. -/
theorem got_miss {B j n : Nat} {sub : Nat → ByteArray} {w wr : World} {av : Option Addr} {m cap : Nat} {e : ByteArray} (h : Got B sub w wr n (.slice av m cap)) (hj : j < n) (hm : false = before sub (sub j) j) (he : sub j = e) :
    (named sub j).length < (named sub n).length ∧ (named sub (j + 1)).length = (named sub j).length + 1 ∧ ∃ g, av = some ⟨g, 0, none⟩ ∧ wr.cell? ⟨g, (named sub j).length, none⟩ = some (.string e) := by
  obtain ⟨h1, h2⟩ := named_at hj hm.symm
  have hl : (named sub j).length < (named sub n).length := (List.getElem?_eq_some_iff.1 h1).1
  obtain ⟨g, hg, hc⟩ := got_cell h hl
  refine ⟨hl, h2, g, hg, ?_⟩
  rw [hc]
  have : (named sub n)[(named sub j).length] = sub j := (List.getElem?_eq_some_iff.1 h1).2
  rw [this, he]

section
variable (s : ByteArray) (ao : Option Addr) (b off n c : Nat) (A : Nat → Option Addr) (L C rb ro : Nat → Nat) (X Y : Nat → Int) (w : World)

set_option maxHeartbeats 1600000 in
theorem law_any (hao : 0 < n → ao = some ⟨b, off, none⟩) (hs : s.size ≤ maxLen) (hn : n ≤ maxLen) (h : IsRows w b off n A L C rb ro X Y) :
    Calls Try.prog 8 #[.string s, .slice ao n c] w fun e w' => e = .returned (.bool true) ∧ Below w.heap.size w w' := by
  have HA : Hid (0 < n → ao = some ⟨b, off, none⟩) := hao
  have HC : Hid (IsRows w b off n A L C rb ro X Y) := h
  clear hao h
  go_enter Try.func8, Try.ntmps8
  go_wp2_with fail
  refine (bytes_any s ao b off n c A L C rb ro X Y _ HA.out hn HC.out).mono ?_
  rintro e w ⟨⟨v, rfl⟩, rfl⟩
  unfold maxLen at hs hn
  cases v
  · go_wp2
    go_ret
    exact ⟨rfl, Below.refl _ _⟩
  by_cases hbig : 1048576 < s.size
  · have hb' : (1048576 : Int) < (s.size : Int) := by omega
    go_wp2
    go_ret
    exact ⟨rfl, Below.refl _ _⟩
  by_cases hbig2 : 4096 < n
  · have hb' : (4096 : Int) < (n : Int) := by omega
    go_wp2
    go_ret
    exact ⟨rfl, Below.refl _ _⟩
  have hns : n ≤ 4096 := by omega
  go_wp2_with fail
  refine (nested_any s ao b off n c A L C rb ro X Y _ HA.out hns HC.out).mono ?_
  rintro e w ⟨⟨v, rfl⟩, rfl⟩
  cases v
  · go_wp2
    go_ret
    exact ⟨rfl, Below.refl _ _⟩
  go_wp2_with fail
  refine (fit_any s ao b off n c A L C rb ro X Y _ HA.out hns HC.out).mono ?_
  rintro e w0 ⟨⟨v, rfl, hfit⟩, nd, rfl⟩
  cases v
  · clear hfit
    go_wp2
    go_ret
    exact ⟨rfl, below_draws (Below.refl _ _) _⟩
  have HFit : Hid (∀ j, j < n → Fit s L X Y j) := hfit rfl
  clear hfit
  go_wp2_with fail
  refine (shim_any s ao b off n c A L C rb ro X Y (w.drewN nd) HA.out hns HC.out HFit.out).mono ?_
  rintro e w1 ⟨av, cap, rfl, hG⟩
  have HG : Hid (Got w.heap.size (subOf s X Y) w w1 n (.slice av (named (subOf s X Y) n).length cap)) := got_undrawn hG.out
  clear hG
  have hlenN := named_len (subOf s X Y) n
  go_wp2
  go_loopw [6, 7] (fun kk i wr => ∃ j nd2 : Nat, j ≤ n ∧ i = .int .i64 j ∧ kk = .int .i64 (named (subOf s X Y) j).length ∧ wr = w1.drewN nd2) (fun _ i _ => n - (intOf i).toNat)
  case atStart => exact ⟨0, 0, Nat.zero_le _, rfl, rfl, rfl⟩
  case round =>
    obtain ⟨j, nd2, hj, rfl, rfl, rfl⟩ := hrel
    by_cases hlt : j < n
    · obtain rfl := HA.out (by omega)
      obtain ⟨x, y, hc0, hcx, hcy, hxy, hys, hL4, hLm, hsub⟩ := rows_at HC.out HFit.out HG.out.2 hlt
      have HS : Hid (subOf s X Y j = s.extract x y) := hsub
      clear hsub
      have l2 : (2 : Int) < (L j : Int) := by omega
      have l3 : (3 : Int) < (L j : Int) := by omega
      have hxy' : (x : Int) ≤ (y : Int) := by omega
      have hys' : (y : Int) ≤ (s.size : Int) := by omega
      go_wp2
      go_quiet (fail)
      go_wp2
      go_loopw [9, 10] (fun f i wr => ∃ (q nd3 : Nat) (fl : Bool), q ≤ j ∧ i = .int .i64 q ∧ f = .bool fl ∧ wr = w1.drewN nd3 ∧ Hid (fl = before (subOf s X Y) (subOf s X Y j) q)) (fun _ i _ => j - (intOf i).toNat)
      case atStart => exact ⟨0, _, false, Nat.zero_le _, rfl, rfl, World.drewN_drewN .., rfl⟩
      case round =>
        obtain ⟨q, nd3, fl, hq, rfl, rfl, rfl, HF⟩ := hrel
        by_cases hql : q < j
        · obtain ⟨x2, y2, hd0, hdx, hdy, hxy2, hys2, hL42, hLm2, hsub2⟩ := rows_at HC.out HFit.out HG.out.2 (show q < n by omega)
          have HS2 : Hid (subOf s X Y q = s.extract x2 y2) := hsub2
          clear hsub2
          have m2 : (2 : Int) < (L q : Int) := by omega
          have m3 : (3 : Int) < (L q : Int) := by omega
          have hxy2' : (x2 : Int) ≤ (y2 : Int) := by omega
          have hys2' : (y2 : Int) ≤ (s.size : Int) := by omega
          have hqj : (q : Int) < (j : Int) := by omega
          have hqn : (q : Int) < (n : Int) := by omega
          cases hE : ((s.extract x2 y2).toList == (s.extract x y).toList)
          · have HF2 : Hid (fl = before (subOf s X Y) (subOf s X Y j) (q + 1)) := by
              cases fl
              · exact before_next HF.out HS2.out HS.out hE
              · exact before_stays HF.out
            clear HF
            go_wp2
            go_quiet (fail)
            go_wp2
            go_roundw
            case rel => exact ⟨q + 1, _, _, by omega, by go_num, rfl, rfl, HF2⟩
            case measure => simp [intOf]; omega
          · have HF2 : Hid (true = before (subOf s X Y) (subOf s X Y j) (q + 1)) := by
              cases fl
              · exact before_next HF.out HS2.out HS.out hE
              · exact before_stays HF.out
            clear HF
            go_wp2
            go_quiet (fail)
            go_wp2
            go_roundw
            case rel => exact ⟨q + 1, _, _, by omega, by go_num, rfl, rfl, HF2⟩
            case measure => simp [intOf]; omega
        · obtain rfl : q = j := by omega
          cases fl
          · obtain ⟨hl, hl2, g, hav, hcg⟩ := got_miss HG.out hlt HF.out HS.out
            subst hav
            have HL2 : Hid ((named (subOf s X Y) (q + 1)).length = (named (subOf s X Y) q).length + 1) := hl2
            clear hl2 HF
            have hl' : ((named (subOf s X Y) q).length : Int) < ((named (subOf s X Y) n).length : Int) := by omega
            go_wp2
            go_roundw
            case rel => exact ⟨q + 1, _, by omega, by go_num, by rw [HL2.out]; go_num, rfl⟩
            case measure => simp [intOf]; omega
          · have HL2 : Hid ((named (subOf s X Y) (q + 1)).length = (named (subOf s X Y) q).length) := named_stays HF.out.symm
            clear HF
            go_wp2
            go_roundw
            case rel => exact ⟨q + 1, _, by omega, by go_num, by rw [HL2.out], rfl⟩
            case measure => simp [intOf]; omega
    · obtain rfl : j = n := by omega
      go_wp2
      go_ret
      exact ⟨rfl, below_draws HG.out.2 _⟩

end
end Go.Proofs.Qxb6600138a.Cn
