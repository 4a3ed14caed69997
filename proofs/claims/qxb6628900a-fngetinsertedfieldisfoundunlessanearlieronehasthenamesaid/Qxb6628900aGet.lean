/-
  The walks of (Header).Get and firstMatch.
-/
import Derived.Test.Qxb6628900aFold
namespace Go.Proofs.Qxb6628900a
open Go.RowKit Plain

/-- The fields F lie in memory from ⟨b, off⟩ on, two cells each. -/
def Has (w : World) (b off : Nat) (F : List (ByteArray × ByteArray)) : Prop :=
  ∀ i (h : i < F.length), w.cell? ⟨b, off + i * 2, none⟩ = some (.string F[i].1) ∧ w.cell? ⟨b, off + i * 2 + 1, none⟩ = some (.string F[i].2)
/-- .. behind a slice's address: of an empty slice nothing is known. -/
def Held (w : World) (ao : Option Addr) (F : List (ByteArray × ByteArray)) : Prop :=
  F = [] ∨ ∃ b off, ao = some ⟨b, off, none⟩ ∧ b < w.heap.size ∧ Has w b off F

theorem Has.below {w w' : World} {b off : Nat} {F : List (ByteArray × ByteArray)} {B : Nat} (h : Has w b off F) (hb : Below B w w') (hB : b < B) : Has w' b off F :=
  fun i hi => ⟨(hb.cell (p := ⟨b, off + i * 2, none⟩) hB).trans (h i hi).1, (hb.cell (p := ⟨b, off + i * 2 + 1, none⟩) hB).trans (h i hi).2⟩

theorem Held.below {w w' : World} {ao : Option Addr} {F : List (ByteArray × ByteArray)} (h : Held w ao F) (hb : Below w.heap.size w w') : Held w' ao F := by
  rcases h with h | ⟨b, off, rfl, hlt, h⟩
  · exact .inl h
  · exact .inr ⟨b, off, rfl, Nat.lt_of_lt_of_le hlt hb.size, h.below hb hlt⟩

theorem below_drewN {B : Nat} {a w : World} (h : Below B a w) (n : Nat) : Below B a (w.drewN n) := by
  induction n with
  | zero => exact h
  | succ n ih => exact ih.drew

/-- The value of the first field of the name q, or the empty string. -/
def getF (F : List (ByteArray × ByteArray)) (q : ByteArray) : ByteArray :=
  match F.find? (fun f => same f.1 q) with
  | some f => f.2
  | none => ⟨#[]⟩

theorem getF_nil (q : ByteArray) : getF [] q = ⟨#[]⟩ := rfl
theorem getF_cons (f : ByteArray × ByteArray) (F : List (ByteArray × ByteArray)) (q : ByteArray) : getF (f :: F) q = if same f.1 q then f.2 else getF F q := by
  unfold getF
  rw [List.find?_cons]
  cases same f.1 q <;> rfl
theorem getF_hit {F : List (ByteArray × ByteArray)} {q : ByteArray} {k : Nat} (hk : k < F.length) (h : same F[k].1 q = true) : getF (F.drop k) q = F[k].2 := by
  rw [List.drop_eq_getElem_cons hk, getF_cons, h, if_pos rfl]
theorem getF_miss {F : List (ByteArray × ByteArray)} {q : ByteArray} {k : Nat} (hk : k < F.length) (h : same F[k].1 q = false) : getF (F.drop k) q = getF (F.drop (k + 1)) q := by
  rw [List.drop_eq_getElem_cons hk, getF_cons, h, if_neg (by simp)]

theorem ret_str {a b : ByteArray} (h : a = b) : Ending.returned (.string a) = .returned (.string b) := by rw [h]

set_option maxHeartbeats 400000 in
theorem get_any (ao : Option Addr) (F : List (ByteArray × ByteArray)) (cap : Nat) (q : ByteArray) (w : World) (hF : Held w ao F) (hl : F.length ≤ 2097152) (hn : ∀ f ∈ F, f.1.size ≤ 1048576) :
    Calls Try.prog 9 #[.slice ao F.length cap, .string q] w fun e w' => e = .returned (.string (getF F q)) ∧ Below w.heap.size w w' := by
  rcases hF with rfl | ⟨b, off, rfl, hlt, hF⟩
  · go_enter Try.func9, Try.ntmps9
    go_wp2
    refine wp_loop_rounds 1 ?_
    rw [rounds_succ]
    go_wp2
    go_ret
    exact ⟨rfl, Below.refl _ _⟩
  · go_enter Try.func9, Try.ntmps9
    go_wp2
    go_loopw [9] (fun i wr => ∃ k : Nat, k ≤ F.length ∧ i = .int .i64 k ∧ Hid (getF F q = getF (F.drop k) q) ∧ Below w.heap.size w wr) (fun i _ => F.length - (intOf i).toNat)
    case atStart => exact ⟨0, Nat.zero_le _, rfl, rfl, Below.refl _ _⟩
    case round =>
      obtain ⟨k, hk, rfl, hg, hb⟩ := hrel
      by_cases hkl : k < F.length
      · have hc0 := ((hF.below hb hlt) k hkl).1
        have hc1 := ((hF.below hb hlt) k hkl).2
        have hsz := hn F[k] (List.getElem_mem hkl)
        cases hs : same F[k].1 q with
        | true =>
          go_wp2_with fail
          refine (fold_any _ _ hsz _).mono ?_
          rintro e w' ⟨rfl, nq, rfl⟩
          go_wp2
          go_ret
          exact ⟨ret_str (by rw [hg.out, getF_hit hkl hs]), below_drewN (hb.alloc hb.size _) _⟩
        | false =>
          go_wp2_with fail
          refine (fold_any _ _ hsz _).mono ?_
          rintro e w' ⟨rfl, nq, rfl⟩
          go_wp2
          go_roundw
          case rel => exact ⟨k + 1, by omega, by go_num, hg.out.trans (getF_miss hkl hs), below_drewN (hb.alloc (hb.size) _) _⟩
          case measure => simp [intOf]; omega
      · obtain rfl : k = F.length := by omega
        go_wp2
        go_ret
        exact ⟨ret_str (by rw [hg.out, List.drop_length]; rfl), hb⟩

theorem bytes_eq {a b : ByteArray} (h : (a.toList == b.toList) = true) : a = b := by
  have e : a.data.toList = b.data.toList := by rw [← ByteArray.toList_eq, ← ByteArray.toList_eq]; exact eq_of_beq h
  cases a; cases b
  exact congrArg ByteArray.mk (Array.toList_inj.1 e)
theorem bytes_self (a : ByteArray) : (a.toList == a.toList) = true := by simp
theorem bytes_ne {a b : ByteArray} (h : (a.toList == b.toList) = false) : ¬ a = b := by
  intro e
  rw [e, bytes_self] at h
  cases h
theorem same_hit {a b : ByteArray} (h : ((lowS a).toList == (lowS b).toList) = true) : same a b = true := decide_eq_true (bytes_eq h)
theorem same_miss {a b : ByteArray} (h : ((lowS a).toList == (lowS b).toList) = false) : same a b = false := decide_eq_false (bytes_ne h)

theorem miss_step {F : List (ByteArray × ByteArray)} {q : ByteArray} {k : Nat} (hk : k < F.length) (h : ∀ i (h : i < F.length), i < k → same F[i].1 q = false) (hm : same F[k].1 q = false) :
    ∀ i (h : i < F.length), i < k + 1 → same F[i].1 q = false := by
  intro i hi hik
  by_cases e : i = k
  · subst e; exact hm
  · exact h i hi (by omega)

/-- No field has the name: nothing is read. -/
theorem getF_none : ∀ (F : List (ByteArray × ByteArray)) (q : ByteArray), (∀ i (h : i < F.length), same F[i].1 q = false) → getF F q = ⟨#[]⟩
  | [], _, _ => rfl
  | f :: F, q, h => by
    have h0 : same f.1 q = false := h 0 (by simp)
    rw [getF_cons, h0, if_neg (by simp)]
    exact getF_none F q fun i hi => h (i + 1) (by simpa using hi)
/-- Field k is the first of the name. -/
theorem getF_first : ∀ (F : List (ByteArray × ByteArray)) (q : ByteArray) (k : Nat) (hk : k < F.length), same F[k].1 q = true → (∀ i (h : i < F.length), i < k → same F[i].1 q = false) → getF F q = F[k].2
  | f :: F, q, 0, _, h, _ => by rw [getF_cons]; simp at h; rw [h, if_pos rfl]; rfl
  | f :: F, q, k + 1, hk, h, hb => by
    have h0 : same f.1 q = false := hb 0 (by simp) (by omega)
    rw [getF_cons, h0, if_neg (by simp)]
    exact getF_first F q k (by simpa using hk) h fun i hi hik => hb (i + 1) (by simpa using hi) (by omega)

set_option maxHeartbeats 400000 in
theorem first_any (ao : Option Addr) (F : List (ByteArray × ByteArray)) (cap : Nat) (q : ByteArray) (w : World) (hF : Held w ao F) (hl : F.length ≤ 2097152) (hq : q.size ≤ 1048576) (hn : ∀ f ∈ F, f.1.size ≤ 1048576) :
    Calls Try.prog 10 #[.slice ao F.length cap, .string q] w fun e w' => Below w.heap.size w w' ∧
      ((e = .returned (.int .i64 (-1)) ∧ ∀ i (h : i < F.length), same F[i].1 q = false) ∨ ∃ (k : Nat) (h : k < F.length), e = .returned (.int .i64 k) ∧ same F[k].1 q = true ∧ ∀ i (h : i < F.length), i < k → same F[i].1 q = false) := by
  rcases hF with rfl | ⟨b, off, rfl, hlt, hF⟩
  · go_enter Try.func10, Try.ntmps10
    go_wp2_with fail
    refine (lower_any _ hq _).mono ?_
    rintro e w' ⟨rfl, hb⟩
    go_wp2
    refine wp_loop_rounds 1 ?_
    rw [rounds_succ]
    go_wp2
    go_ret
    exact ⟨hb, .inl ⟨rfl, fun i h => absurd h (Nat.not_lt_zero _)⟩⟩
  · go_enter Try.func10, Try.ntmps10
    go_wp2_with fail
    refine (lower_any _ hq _).mono ?_
    rintro e w1 ⟨rfl, hb1⟩
    go_wp2
    go_loopw [6] (fun i wr => ∃ k : Nat, k ≤ F.length ∧ i = .int .i64 k ∧ Hid (∀ i (h : i < F.length), i < k → same F[i].1 q = false) ∧ Below w.heap.size w wr) (fun i _ => F.length - (intOf i).toNat)
    case atStart => exact ⟨0, Nat.zero_le _, rfl, fun i _ h => absurd h (Nat.not_lt_zero _), hb1⟩
    case round =>
      obtain ⟨k, hk, rfl, hg, hb⟩ := hrel
      clear hb1
      by_cases hkl : k < F.length
      · have hc0 := ((hF.below hb hlt) k hkl).1
        have hsz := hn F[k] (List.getElem_mem hkl)
        go_wp2_with fail
        refine (lower_any _ hsz _).mono ?_
        rintro e w2 ⟨rfl, hb2⟩
        go_wp2
        · go_ret
          exact ⟨hb.trans (hb2.mono hb.size), .inr ⟨k, hkl, rfl, same_hit ‹_›, hg.out⟩⟩
        · have hm := same_miss (a := F[k].1) (b := q) ‹_›
          go_roundw
          case rel => exact ⟨k + 1, by omega, by go_num, miss_step hkl hg.out hm, hb.trans (hb2.mono hb.size)⟩
          case measure => simp [intOf]; omega
      · obtain rfl : k = F.length := by omega
        go_wp2
        go_ret
        exact ⟨hb, .inl ⟨rfl, fun i h => hg.out i h h⟩⟩
end Go.Proofs.Qxb6628900a
