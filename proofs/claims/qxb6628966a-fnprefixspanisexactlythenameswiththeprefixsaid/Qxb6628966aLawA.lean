/-
  The walk of FnPrefixSpanIsExactlyTheNamesWithThePrefix.
-/
import Derived.Test.Qxb6628966aSpan
namespace Go.Proofs.Qxb6628966a
open Go.RowKit Plain

theorem toS_size (p : ByteArray) : (toS p).size ≤ p.size := by
  have := endOf_length (bs p)
  have e1 : (toS p).size = (endOf (bs p)).length := by show (endOf (bs p)).toArray.size = _; simp
  have e2 : (bs p).length = p.size := by simp
  omega
theorem bs_toS (p : ByteArray) : bs (toS p) = endOf (bs p) := by simp [bs, toS]
theorem below_drewN {B : Nat} {a w : World} (h : Below B a w) (n : Nat) : Below B a (w.drewN n) := by
  induction n with
  | zero => exact h
  | succ n ih => exact ih.drew

set_option maxHeartbeats 1000000 in
theorem lawA_big (p n : ByteArray) (hp : p.size ≤ maxLen) (hn : n.size ≤ maxLen) (w : World) :
    Calls Try.prog 3 #[.string p, .string n] w fun e w' => e = .returned (.bool true) ∧ Below w.heap.size w w' := by
  go_enter Try.func3, Try.ntmps3
  go_wp2_with fail
  refine (guard5 p n hp hn w).mono ?_
  rintro e w1 ⟨hw1, r, rfl⟩
  subst hw1
  unfold maxLen at hp hn
  cases r with
  | false =>
    go_wp2
    go_ret
    exact ⟨rfl, Below.refl _ _⟩
  | true =>
    by_cases hp1 : p.size ≤ 65536
    · by_cases hn1 : n.size ≤ 65536
      · go_wp2_with fail
        refine (span_any p hp1 _).mono ?_
        rintro e w2 ⟨rfl, hb2⟩
        have hts := toS_size p
        have hl := inSpan_is (bs p) (bs n)
        rw [← bs_toS] at hl
        have HL : Hid (inSpan (bs p) (bs (toS p)) (bs n) = hasPre (bs n) (bs p)) := hl
        clear hl
        go_wp2_with fail
        refine (inSpan_any p (toS p) n (by omega) (by omega) (by omega) _).mono ?_
        rw [HL.out]
        rintro e w3 ⟨rfl, n3, rfl⟩
        go_wp2_with fail
        refine (pre_any n p (by omega) _).mono ?_
        rintro e w4 ⟨rfl, n4, rfl⟩
        go_wp2
        go_ret
        exact ⟨rfl, by first | exact below_drewN (hb2.alloc hb2.size _) _ | exact below_drewN (below_drewN (hb2.alloc hb2.size _) _) _⟩
      · go_wp2
        go_ret
        exact ⟨rfl, Below.refl _ _⟩
    · go_wp2
      go_ret
      exact ⟨rfl, Below.refl _ _⟩
end Go.Proofs.Qxb6628966a
