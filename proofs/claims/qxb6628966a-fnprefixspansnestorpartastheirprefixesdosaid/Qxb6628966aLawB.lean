/-
  The walk of FnPrefixSpansNestOrPartAsTheirPrefixesDo.
-/
import Derived.Test.Qxb6628966aLawA
namespace Go.Proofs.Qxb6628966a
open Go.RowKit Plain

theorem toS_empty {p : ByteArray} (h : endOf (bs p) = []) : (toS p).toList.isEmpty = true := empty_list (by rw [bs_toS]; exact h)
theorem toS_filled {p : ByteArray} (h : endOf (bs p) ≠ []) : (toS p).toList.isEmpty = false := filled_list (by rw [bs_toS]; exact h)

set_option maxHeartbeats 2000000 in
theorem lawB_big (a b : ByteArray) (ha : a.size ≤ maxLen) (hb : b.size ≤ maxLen) (w : World) :
    Calls Try.prog 4 #[.string a, .string b] w fun e w' => e = .returned (.bool true) ∧ Below w.heap.size w w' := by
  go_enter Try.func4, Try.ntmps4
  go_wp2_with fail
  refine (guard9 a b ha hb w).mono ?_
  rintro e w1 ⟨hw1, r, rfl⟩
  subst hw1
  unfold maxLen at ha hb
  cases r with
  | false =>
    go_wp2
    go_ret
    exact ⟨rfl, Below.refl _ _⟩
  | true =>
    by_cases ha1 : a.size ≤ 65536
    · by_cases hb1 : b.size ≤ 65536
      · go_wp2_with fail
        refine (span_any a ha1 _).mono ?_
        rintro e w2 ⟨rfl, hb2⟩
        go_wp2_with fail
        refine (span_any b hb1 _).mono ?_
        rintro e w3 ⟨rfl, hb3⟩
        have hta := toS_size a
        have htb := toS_size b
        have ca0 : w3.cell? ⟨w2.heap.size, 0, none⟩ = some (.string a) := (hb3.cell (p := ⟨w2.heap.size, 0, none⟩) (by simp)).trans (by simp)
        have ca1 : w3.cell? ⟨w2.heap.size, 1, none⟩ = some (.string (toS a)) := (hb3.cell (p := ⟨w2.heap.size, 1, none⟩) (by simp)).trans (by simp)
        have hlt : w2.heap.size < w3.heap.size := by have := hb3.size; simp at this; omega
        have hbb : Below w1.heap.size w1 w3 := (hb2.alloc hb2.size _).trans (hb3.mono (by have := hb2.size; simp; omega))
        clear hb2 hb3
        cases hba : hasPre (bs b) (bs a) with
        | true =>
          have h1 := pre_cmp (bs a) (bs b) hba
          have h2 := bound_nest (bs a) (bs b) hba
          rw [← bs_toS, ← bs_toS] at h2
          go_wp2_with fail
          refine (pre_any b a (by omega) _).mono ?_
          rw [hba]
          rintro e w4 ⟨rfl, n4, rfl⟩
          clear hba
          go_wp2_with fail
          refine (cmp_any a b (by omega) (by omega) _).mono ?_
          rintro e w5 ⟨rfl, n5, rfl⟩
          go_wp2_with fail
          refine (bound_any (toS b) (toS a) (by omega) (by omega) _).mono ?_
          rw [h2]
          rintro e w6 ⟨rfl, n6, rfl⟩
          clear h2
          go_wp2
          go_ret
          exact ⟨rfl, by first | exact below_drewN (hbb.alloc hbb.size _) _ | exact below_drewN (below_drewN (hbb.alloc hbb.size _) _) _ | exact below_drewN (below_drewN (below_drewN (hbb.alloc hbb.size _) _) _) _⟩
        | false =>
          cases hab : hasPre (bs a) (bs b) with
          | true =>
            have h1 := pre_cmp (bs b) (bs a) hab
            have h2 := bound_nest (bs b) (bs a) hab
            rw [← bs_toS, ← bs_toS] at h2
            go_wp2_with fail
            refine (pre_any b a (by omega) _).mono ?_
            rw [hba]
            rintro e w4 ⟨rfl, n4, rfl⟩
            clear hba
            go_wp2_with fail
            refine (pre_any a b (by omega) _).mono ?_
            rw [hab]
            rintro e w5 ⟨rfl, n5, rfl⟩
            clear hab
            go_wp2_with fail
            refine (cmp_any b a (by omega) (by omega) _).mono ?_
            rintro e w6 ⟨rfl, n6, rfl⟩
            go_wp2_with fail
            refine (bound_any (toS a) (toS b) (by omega) (by omega) _).mono ?_
            rw [h2]
            rintro e w7 ⟨rfl, n7, rfl⟩
            clear h2
            go_wp2
            go_ret
            exact ⟨rfl, by first | exact below_drewN (hbb.alloc hbb.size _) _ | exact below_drewN (below_drewN (hbb.alloc hbb.size _) _) _ | exact below_drewN (below_drewN (below_drewN (hbb.alloc hbb.size _) _) _) _⟩
          | false =>
            have hap := apart (bs a) (bs b) hba hab
            have HAP : Hid ((endOf (bs a) ≠ [] ∧ cmp (endOf (bs a)) (bs b) ≤ 0) ∨ (endOf (bs b) ≠ [] ∧ cmp (endOf (bs b)) (bs a) ≤ 0)) := hap
            clear hap
            go_wp2_with fail
            refine (pre_any b a (by omega) _).mono ?_
            rw [hba]
            rintro e w4 ⟨rfl, n4, rfl⟩
            clear hba
            go_wp2_with fail
            refine (pre_any a b (by omega) _).mono ?_
            rw [hab]
            rintro e w5 ⟨rfl, n5, rfl⟩
            clear hab
            by_cases hea : endOf (bs a) = []
            · have h3 := toS_empty hea
              have hsec : endOf (bs b) ≠ [] ∧ cmp (endOf (bs b)) (bs a) ≤ 0 := HAP.out.elim (fun h => absurd hea h.1) id
              have h4 := toS_filled hsec.1
              have h5 := hsec.2
              rw [← bs_toS] at h5
              clear hea hsec
              go_wp2_with fail
              refine (cmp_any (toS b) a (by omega) (by omega) _).mono ?_
              rintro e w6 ⟨rfl, n6, rfl⟩
              go_wp2
              go_ret
              exact ⟨rfl, by first | exact below_drewN (hbb.alloc hbb.size _) _ | exact below_drewN (below_drewN (hbb.alloc hbb.size _) _) _ | exact below_drewN (below_drewN (below_drewN (hbb.alloc hbb.size _) _) _) _⟩
            · have h3 := toS_filled hea
              by_cases hc : cmp (endOf (bs a)) (bs b) ≤ 0
              · have h5 := hc
                rw [← bs_toS] at h5
                clear hc hea
                go_wp2_with fail
                refine (cmp_any (toS a) b (by omega) (by omega) _).mono ?_
                rintro e w6 ⟨rfl, n6, rfl⟩
                go_wp2
                go_ret
                exact ⟨rfl, by first | exact below_drewN (hbb.alloc hbb.size _) _ | exact below_drewN (below_drewN (hbb.alloc hbb.size _) _) _ | exact below_drewN (below_drewN (below_drewN (hbb.alloc hbb.size _) _) _) _⟩
              · have hsec : endOf (bs b) ≠ [] ∧ cmp (endOf (bs b)) (bs a) ≤ 0 := HAP.out.elim (fun h => absurd h.2 hc) id
                have h4 := toS_filled hsec.1
                have h5 := hsec.2
                have h6 := hc
                rw [← bs_toS] at h5 h6
                clear hc hea hsec
                go_wp2_with fail
                refine (cmp_any (toS a) b (by omega) (by omega) _).mono ?_
                rintro e w6 ⟨rfl, n6, rfl⟩
                go_wp2_with fail
                refine (cmp_any (toS b) a (by omega) (by omega) _).mono ?_
                rintro e w7 ⟨rfl, n7, rfl⟩
                go_wp2
                go_ret
                exact ⟨rfl, by first | exact below_drewN (hbb.alloc hbb.size _) _ | exact below_drewN (below_drewN (hbb.alloc hbb.size _) _) _ | exact below_drewN (below_drewN (below_drewN (hbb.alloc hbb.size _) _) _) _⟩
      · go_wp2
        go_ret
        exact ⟨rfl, Below.refl _ _⟩
    · go_wp2
      go_ret
      exact ⟨rfl, Below.refl _ _⟩
end Go.Proofs.Qxb6628966a
