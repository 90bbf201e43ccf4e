/-
  The plain law on classesNamed, with no Go in sight: 'named sub k': what the first k mentions name, each once, in order.
-/
import Derived.Below
namespace Go.Proofs.Qxb6600138a.Cn

/-- Two strings hold the same bytes (in the walk's spelling). -/
def eqS (a c : ByteArray) : Bool := a.toList == c.toList
theorem eqS_refl (a : ByteArray) : eqS a a = true := by simp [eqS]
theorem eqS_symm {a c : ByteArray} (h : eqS a c = true) : eqS c a = true := by simp only [eqS, beq_iff_eq] at *; exact h.symm
theorem eqS_trans {a c d : ByteArray} (h : eqS a c = true) (k : eqS c d = true) : eqS a d = true := by simp only [eqS, beq_iff_eq] at *; exact h.trans k

/-- Is one of the strings of l the same as x? -/
def has (l : List ByteArray) (x : ByteArray) : Bool := l.any fun c => eqS c x

/-- What the first k mentions name. -/
def named (sub : Nat → ByteArray) : Nat → List ByteArray
  | 0 => []
  | k + 1 => if has (named sub k) (sub k) = true then named sub k else named sub k ++ [sub k]

/-- Has one of the first i mentions named x? -/
def before (sub : Nat → ByteArray) (x : ByteArray) (i : Nat) : Bool := (List.range i).any fun j => eqS (sub j) x

theorem has_nil (x : ByteArray) : has [] x = false := rfl
theorem has_take_zero (l : List ByteArray) (x : ByteArray) : has (l.take 0) x = false := rfl
theorem has_take_succ (l : List ByteArray) (x : ByteArray) (i : Nat) (h : i < l.length) : has (l.take (i + 1)) x = (has (l.take i) x || eqS l[i] x) := by
  unfold has
  rw [List.take_succ_eq_append_getElem h, List.any_append]
  simp only [List.any_cons, List.any_nil, Bool.or_false]
theorem has_take_all (l : List ByteArray) (x : ByteArray) : has (l.take l.length) x = has l x := by simp
theorem before_zero (sub : Nat → ByteArray) (x : ByteArray) : before sub x 0 = false := rfl
theorem before_succ (sub : Nat → ByteArray) (x : ByteArray) (i : Nat) : before sub x (i + 1) = (before sub x i || eqS (sub i) x) := by
  unfold before
  rw [List.range_succ]
  simp

theorem named_hit {sub : Nat → ByteArray} {k : Nat} (h : has (named sub k) (sub k) = true) : named sub (k + 1) = named sub k := by simp [named, h]
theorem named_miss {sub : Nat → ByteArray} {k : Nat} (h : has (named sub k) (sub k) = false) : named sub (k + 1) = named sub k ++ [sub k] := by simp [named, h]

theorem named_len (sub : Nat → ByteArray) (k : Nat) : (named sub k).length ≤ k := by
  induction k with
  | zero => simp [named]
  | succ k ih =>
    cases h : has (named sub k) (sub k) with
    | true => rw [named_hit h]; omega
    | false => rw [named_miss h]; simp; omega

theorem named_mem {sub : Nat → ByteArray} {k : Nat} {c : ByteArray} (h : c ∈ named sub k) : ∃ i, i < k ∧ c = sub i := by
  induction k with
  | zero => simp [named] at h
  | succ k ih =>
    cases e : has (named sub k) (sub k) with
    | true =>
      rw [named_hit e] at h
      obtain ⟨i, hi, hc⟩ := ih h
      exact ⟨i, by omega, hc⟩
    | false =>
      rw [named_miss e, List.mem_append] at h
      rcases h with h | h
      · obtain ⟨i, hi, hc⟩ := ih h
        exact ⟨i, by omega, hc⟩
      · exact ⟨k, by omega, by simpa using h⟩

theorem named_mono {sub : Nat → ByteArray} {k : Nat} {c : ByteArray} (h : c ∈ named sub k) : c ∈ named sub (k + 1) := by
  cases e : has (named sub k) (sub k) with
  | true => rw [named_hit e]; exact h
  | false => rw [named_miss e]; exact List.mem_append_left _ h

theorem named_has {sub : Nat → ByteArray} {k i : Nat} (h : i < k) : ∃ c, c ∈ named sub k ∧ eqS c (sub i) = true := by
  induction k with
  | zero => omega
  | succ k ih =>
    by_cases hi : i < k
    · obtain ⟨c, hc, he⟩ := ih hi
      exact ⟨c, named_mono hc, he⟩
    · have : i = k := by omega
      subst this
      cases e : has (named sub i) (sub i) with
      | true =>
        obtain ⟨c, hc, he⟩ := List.any_eq_true.1 e
        exact ⟨c, named_mono hc, he⟩
      | false => exact ⟨sub i, by rw [named_miss e]; simp, eqS_refl _⟩

/-- A mention is named already exactly where an earlier mention names the same. -/
theorem has_iff (sub : Nat → ByteArray) (k : Nat) : has (named sub k) (sub k) = before sub (sub k) k := by
  rw [Bool.eq_iff_iff]
  constructor
  · intro h
    obtain ⟨c, hc, he⟩ := List.any_eq_true.1 h
    obtain ⟨i, hi, rfl⟩ := named_mem hc
    exact List.any_eq_true.2 ⟨i, List.mem_range.2 hi, he⟩
  · intro h
    obtain ⟨i, hi, he⟩ := List.any_eq_true.1 h
    obtain ⟨c, hc, hce⟩ := named_has (sub := sub) (List.mem_range.1 hi)
    exact List.any_eq_true.2 ⟨c, hc, eqS_trans hce he⟩

theorem named_grows (sub : Nat → ByteArray) (k d : Nat) : ∃ t, named sub (k + d) = named sub k ++ t := by
  induction d with
  | zero => exact ⟨[], by simp⟩
  | succ d ih =>
    obtain ⟨t, ht⟩ := ih
    show ∃ t, named sub ((k + d) + 1) = _
    cases e : has (named sub (k + d)) (sub (k + d)) with
    | true => exact ⟨t, by rw [named_hit e, ht]⟩
    | false => exact ⟨t ++ [sub (k + d)], by rw [named_miss e, ht, List.append_assoc]⟩

theorem named_len_mono (sub : Nat → ByteArray) {k n : Nat} (h : k ≤ n) : (named sub k).length ≤ (named sub n).length := by
  obtain ⟨t, ht⟩ := named_grows sub k (n - k)
  rw [show k + (n - k) = n by omega] at ht
  rw [ht]
  simp

/-- A mention that no earlier one named stands in the answer, at the place behind those that the earlier ones named. -/
theorem named_at {sub : Nat → ByteArray} {k n : Nat} (h : k < n) (hm : before sub (sub k) k = false) :
    (named sub n)[(named sub k).length]? = some (sub k) ∧ (named sub (k + 1)).length = (named sub k).length + 1 := by
  rw [← has_iff] at hm
  obtain ⟨t, ht⟩ := named_grows sub (k + 1) (n - (k + 1))
  rw [show k + 1 + (n - (k + 1)) = n by omega, named_miss hm] at ht
  rw [ht, named_miss hm]
  simp

theorem named_stays {sub : Nat → ByteArray} {k : Nat} (hm : before sub (sub k) k = true) : (named sub (k + 1)).length = (named sub k).length := by
  rw [← has_iff] at hm
  rw [named_hit hm]

end Go.Proofs.Qxb6600138a.Cn
