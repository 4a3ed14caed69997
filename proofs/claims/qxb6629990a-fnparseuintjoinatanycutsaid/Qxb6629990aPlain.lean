/-
  Decimal digits as lists of numbers: the value, what fits, and how the value parts at a cut. No Go here.
-/
import Derived.Test.Qxb6629990aRows
namespace Go.Proofs.Qxb6629990a
namespace Plain

/-- The value of a list of digit bytes, read from the left, begun at 'n'. -/
def val (n : Nat) (l : List Nat) : Nat := l.foldl (fun n c => n * 10 + (c - 48)) n
theorem val_nil (n : Nat) : val n [] = n := by unfold val; rw [List.foldl_nil]
theorem val_cons (n c : Nat) (l : List Nat) : val n (c :: l) = val (n * 10 + (c - 48)) l := by unfold val; rw [List.foldl_cons]

/-- Every byte is a decimal digit. -/
def Digits (l : List Nat) : Prop := ∀ c ∈ l, 48 ≤ c ∧ c ≤ 57

/-- The greatest number of 'b' bits, 64 at the most. -/
def most (b : Nat) : Nat := 2 ^ min b 64 - 1

/-- The bytes are a number of 'b' bits. -/
def Fits (l : List Nat) (b : Nat) : Prop := l ≠ [] ∧ Digits l ∧ val 0 l ≤ most b

/-- What a reader answers. -/
def Reads (l : List Nat) (b : Nat) (v : Nat) (ok : Bool) : Prop := (Fits l b ∧ v = val 0 l ∧ ok = true) ∨ (¬ Fits l b ∧ v = 0 ∧ ok = false)

theorem Reads.one {l : List Nat} {b v v' : Nat} {ok ok' : Bool} (h : Reads l b v ok) (h' : Reads l b v' ok') : v = v' ∧ ok = ok' := by
  rcases h with ⟨f, rfl, rfl⟩ | ⟨f, rfl, rfl⟩ <;> rcases h' with ⟨f', rfl, rfl⟩ | ⟨f', rfl, rfl⟩
  · exact ⟨rfl, rfl⟩
  · exact absurd f f'
  · exact absurd f' f
  · exact ⟨rfl, rfl⟩

theorem val_append (l m : List Nat) (n : Nat) : val n (l ++ m) = val (val n l) m := by unfold val; rw [List.foldl_append]

theorem shift_ring (n d p v : Nat) : (n * 10 + d) * p + v = n * (p * 10) + (d * p + v) := by
  have e : n * 10 * p = n * (p * 10) := by rw [Nat.mul_assoc, Nat.mul_comm 10]
  rw [Nat.add_mul, e, Nat.add_assoc]

theorem val_shift (l : List Nat) : ∀ n, val n l = n * 10 ^ l.length + val 0 l := by
  induction l with
  | nil => intro n; rw [List.length_nil, Nat.pow_zero, Nat.mul_one, val_nil, val_nil, Nat.add_zero]
  | cons c l ih =>
    intro n
    rw [val_cons, val_cons, ih (n * 10 + (c - 48)), ih (0 * 10 + (c - 48)), List.length_cons, Nat.pow_succ, shift_ring, Nat.zero_mul, Nat.zero_add]

theorem val_join (l m : List Nat) : val 0 (l ++ m) = val 0 l * 10 ^ m.length + val 0 m := by rw [val_append, val_shift]

theorem val_take_succ (l : List Nat) (k : Nat) (h : k < l.length) : val 0 (l.take (k + 1)) = val 0 (l.take k) * 10 + (l[k] - 48) := by
  rw [List.take_succ_eq_append_getElem h, val_append, val_cons, val_nil]

theorem val_le_join (l m : List Nat) : val 0 l ≤ val 0 (l ++ m) := by
  rw [val_join]
  have : 1 ≤ 10 ^ m.length := Nat.pow_pos (by omega)
  have := Nat.mul_le_mul_left (val 0 l) this
  omega

theorem val_take_le (l : List Nat) (k : Nat) : val 0 (l.take k) ≤ val 0 l := by
  have := val_le_join (l.take k) (l.drop k)
  rwa [List.take_append_drop] at this

theorem val_drop (l : List Nat) (k : Nat) (h : k < l.length) : val 0 (l.drop k) = (l[k] - 48) * 10 ^ (l.length - (k + 1)) + val 0 (l.drop (k + 1)) := by
  rw [List.drop_eq_getElem_cons h]
  rw [val_cons, val_shift, List.length_drop, Nat.zero_mul, Nat.zero_add]

theorem val_drop_le (l : List Nat) (k : Nat) : val 0 (l.drop k) ≤ val 0 l := by
  have h := val_join (l.take k) (l.drop k)
  rw [List.take_append_drop] at h
  omega

theorem val_lt (l : List Nat) (h : Digits l) : val 0 l < 10 ^ l.length := by
  induction l with
  | nil => rw [val_nil, List.length_nil, Nat.pow_zero]; exact Nat.zero_lt_one
  | cons c l ih =>
    have ih := ih (fun d hd => h d (List.mem_cons_of_mem _ hd))
    obtain ⟨h1, h2⟩ := h c List.mem_cons_self
    rw [val_cons, List.length_cons, val_shift, Nat.pow_succ]
    have : (0 * 10 + (c - 48)) * 10 ^ l.length ≤ 9 * 10 ^ l.length := Nat.mul_le_mul_right _ (by omega)
    omega

/-- Leading zeros do not count. -/
theorem val_zeros (l : List Nat) : ∀ k, (∀ i (h : i < l.length), i < k → l[i] = 48) → val 0 l = val 0 (l.drop k) := by
  intro k
  induction k with
  | zero => intro _; simp
  | succ k ih =>
    intro hz
    rw [ih (fun i h hi => hz i h (by omega))]
    by_cases hk : k < l.length
    · rw [val_drop l k hk, hz k hk (by omega)]
      simp
    · rw [List.drop_eq_nil_of_le (by omega), List.drop_eq_nil_of_le (by omega)]

theorem val_big (l : List Nat) (h : 0 < l.length) (h0 : 49 ≤ l[0]) : 10 ^ (l.length - 1) ≤ val 0 l := by
  have h1 := val_drop l 0 h
  rw [List.drop_zero] at h1
  rw [h1]
  have := Nat.mul_le_mul_right (10 ^ (l.length - (0 + 1))) (show 1 ≤ l[0] - 48 by omega)
  simp at this ⊢
  omega

/-- Two lists of one length that agree up to k: the k-th decides. -/
theorem val_less (l m : List Nat) (hl : l.length = m.length) (dl : Digits l) (k : Nat) (h1 : k < l.length) (h2 : k < m.length) (he : l.take k = m.take k) (dm : 48 ≤ l[k]) (hlt : l[k] < m[k]) : val 0 l < val 0 m := by
  have a1 := val_join (l.take k) (l.drop k)
  have a2 := val_join (m.take k) (m.drop k)
  rw [List.take_append_drop] at a1 a2
  rw [a1, a2, he, val_drop l k h1, val_drop m k h2, List.length_drop, List.length_drop, hl]
  have b := val_lt (l.drop (k + 1)) (fun c hc => dl c (List.mem_of_mem_drop hc))
  rw [List.length_drop, hl] at b
  have c := Nat.mul_le_mul_right (10 ^ (m.length - (k + 1))) (show l[k] - 48 + 1 ≤ m[k] - 48 by omega)
  rw [Nat.add_mul] at c
  omega

theorem most_le (b : Nat) : most b ≤ 18446744073709551615 := by
  unfold most
  have : 2 ^ min b 64 ≤ 2 ^ 64 := Nat.pow_le_pow_right (by omega) (by omega)
  omega

theorem most_ge (b : Nat) (h : 4 ≤ b) : 15 ≤ most b := by
  unfold most
  have : 2 ^ 4 ≤ 2 ^ min b 64 := Nat.pow_le_pow_right (by omega) (by omega)
  omega

theorem most_big (b : Nat) (h : 64 ≤ b) : most b = 18446744073709551615 := by
  unfold most
  rw [show min b 64 = 64 by omega]

/-- The bound by a shift. -/
theorem most_shr (b v : Nat) (h : b < 64) : (v / 2 ^ b = 0) ↔ v ≤ most b := by
  unfold most
  rw [show min b 64 = b by omega, Nat.div_eq_zero_iff]
  have := Nat.two_pow_pos b
  omega

/-- One more digit, and the test ahead of it. -/
theorem step_fits {n M d : Nat} (hd : d ≤ M) : n ≤ (M - d) / 10 ↔ n * 10 + d ≤ M := by omega

/-- The greatest number of 64 bits, digit by digit. -/
def top : List Nat := [49, 56, 52, 52, 54, 55, 52, 52, 48, 55, 51, 55, 48, 57, 53, 53, 49, 54, 49, 53]
theorem top_val : val 0 top = 18446744073709551615 := by decide
theorem top_len : top.length = 20 := rfl
theorem top_digits : Digits top := by unfold Digits; decide

end Plain
end Go.Proofs.Qxb6629990a
