/-
  The walk of FnGetIgnoresLetterCaseOnBothSides.
-/
import Derived.Test.Qxb6628900aHeader
import Derived.Deep.RegionWith
namespace Go.Proofs.Qxb6628900a
open Go.RowKit Plain

/-- The fields, each name's case turned over. -/
def swapped (F : List (ByteArray × ByteArray)) : List (ByteArray × ByteArray) := F.map fun f => (swpS f.1, f.2)
theorem swapped_length (F : List (ByteArray × ByteArray)) : (swapped F).length = F.length := by simp [swapped]

theorem swapped_at {F : List (ByteArray × ByteArray)} {k : Nat} (hk : k < F.length) : (swapped F)[k]'(by rw [swapped_length]; exact hk) = (swpS F[k].1, F[k].2) := by simp [swapped]
theorem getF_swapped : ∀ (F : List (ByteArray × ByteArray)) (q : ByteArray), getF (swapped F) q = getF F q
  | [], _ => rfl
  | f :: F, q => by
    show getF ((swpS f.1, f.2) :: swapped F) q = _
    rw [getF_cons, getF_cons, same_swp_left, getF_swapped F q]
theorem getF_swq : ∀ (F : List (ByteArray × ByteArray)) (q : ByteArray), getF F (swpS q) = getF F q
  | [], _ => rfl
  | f :: F, q => by
    rw [getF_cons, getF_cons, same_swp_right, getF_swq F q]
theorem swapped_small {F : List (ByteArray × ByteArray)} (h : Small F) : ∀ f ∈ swapped F, f.1.size ≤ 1048576 := by
  intro f hf
  obtain ⟨g, hg, rfl⟩ := List.mem_map.1 hf
  show (mapS swp g.1).size ≤ _
  rw [size_mapS]
  exact (h g hg).1

set_option maxHeartbeats 1000000 in
theorem lawB_big (ao : Option Addr) (F : List (ByteArray × ByteArray)) (cap : Nat) (q : ByteArray) (w : World) (hnil : ao = none → F = [] ∧ cap = 0) (hF : Held w ao F) (hl : F.length ≤ maxLen) (hq : q.size ≤ maxLen) (hn : ∀ f ∈ F, f.1.size ≤ maxLen ∧ f.2.size ≤ maxLen) :
    Calls Try.prog 4 #[.slice ao F.length cap, .string q] w fun e w' => e = .returned (.bool true) ∧ Below w.heap.size w w' := by
  go_enter Try.func4, Try.ntmps4
  go_wp2_with fail
  refine (bytes11 _ _ _ _ _ hF hl hq hn).mono ?_
  rintro e w1 ⟨rfl, r, rfl, hr⟩
  cases r with
  | false =>
    clear hr
    go_wp2
    go_ret
    exact ⟨rfl, Below.refl _ _⟩
  | true =>
    obtain ⟨hl2, hs, hq2⟩ := hr rfl
    clear hr hl hq hn
    by_cases hl3 : F.length ≤ 65536
    · go_wp2_with fail
      refine (small_any _ _ _ _ _ hF hl2 (by omega) hs).mono ?_
      rintro e w2 ⟨rfl, r, rfl, _⟩
      cases r with
      | false =>
        go_wp2
        go_ret
        exact ⟨rfl, Below.refl _ _⟩
      | true =>
        go_wp2_with fail
        refine (header_any _ _ _ _ hnil hF (by omega)).mono ?_
        rintro e w3 ⟨ho, rfl, hh, hb3⟩
        have hF3 := hF.below hb3
        clear hF
        have hmk := fun wx => make_header F.length F.length (by omega) (by omega) (by omega) wx
        simp only [Int.toNat_natCast] at hmk
        go_wp2
        go_loopw [7] (fun i wr => ∃ k : Nat, k ≤ F.length ∧ i = .int .i64 k ∧ wr.rowIs w3.heap.size 30 (F.length * 2) (pcell (swapped F) k) ∧ Below w3.heap.size w3 wr) (fun i _ => F.length - (intOf i).toNat)
        case atStart => exact ⟨0, Nat.zero_le _, rfl, made_pairs _ _ _, (Below.refl _ _).alloc (Nat.le_refl _) _⟩
        case round =>
          obtain ⟨k, hk, rfl, hrow, hb⟩ := hrel
          by_cases hkl : k < F.length
          · rcases hF3 with rfl | ⟨b, off, rfl, hlt, hF3⟩
            · exact absurd hkl (Nat.not_lt_zero _)
            have hc0 := ((hF3.below hb hlt) k hkl).1
            have hc1 := ((hF3.below hb hlt) k hkl).2
            have g0 := hrow.cell (i := k * 2) (by omega)
            have g1 := hrow.cell (i := k * 2 + 1) (by omega)
            have f0 := hrow.frozen (k * 2)
            have f1 := hrow.frozen (k * 2 + 1)
            have hsz := (hs F[k] (List.getElem_mem hkl)).1
            have hbw : b < wr.heap.size := Nat.lt_of_lt_of_le hlt hb.size
            have hgw := hrow.lt
            go_wp2
            go_region_with (go_at_call 8; refine (swap_any _ hsz _).mono ?_; rintro e w2 ⟨rfl, hb2⟩; have c1 := (hb2.cell (p := ⟨b, off + k * 2 + 1, none⟩) hbw).trans hc1; have d0 := (hb2.cell (p := ⟨w3.heap.size, k * 2, none⟩) hgw).trans g0; have d1 := (hb2.cell (p := ⟨w3.heap.size, k * 2 + 1, none⟩) hgw).trans g1; have e0 := (hb2.frozen (p := ⟨w3.heap.size, k * 2, none⟩) hgw).trans f0; have e1 := (hb2.frozen (p := ⟨w3.heap.size, k * 2 + 1, none⟩) hgw).trans f1)
            all_goals
              go_wp2
              go_roundw
              case rel => exact ⟨k + 1, by omega, by go_num, pcell_step' (by rw [swapped_length]; exact hkl) (swapped_at hkl) (hrow.of_block (hb2.block _ hgw)), ((hb.trans ((Below.drew (Below.refl _ _)).trans (hb2.mono hb.size))).setCell (Nat.le_refl _) _).setCell (Nat.le_refl _) _⟩
              case measure => simp [intOf]; omega
          · obtain rfl : k = F.length := by omega
            clear hmk
            have hFr := hF3.below hb
            have hhr := hh.below hb
            have hgr : Held wr (some ⟨w3.heap.size, 0, none⟩) (swapped F) := .inr ⟨_, _, rfl, hrow.lt, pcell_has (by rw [swapped_length]; exact Nat.le_refl _) (by rw [swapped_length]; exact hrow)⟩
            clear hF3 hh hrow
            rcases first_cases F q with hA | ⟨j, hj, hA1, hA2⟩
            · have hn1 : ∀ f ∈ F, f.1.size ≤ 1048576 := fun f hf => (hs f hf).1
              have hn2 := swapped_small hs
              have HA : Hid (getF F q = ⟨#[]⟩) := getF_none F q hA
              go_wp2_with fail
              refine (swap_any _ hq2 _).mono ?_
              rintro e w4 ⟨rfl, hb4⟩
              go_wp2_with fail
              refine (get_is _ F _ _ _ ⟨#[]⟩ _ rfl HA.out (hhr.below hb4) (by omega) hn1).mono ?_
              rintro e w5 ⟨rfl, hb5⟩
              go_wp2_with fail
              refine (get_is _ F _ _ _ ⟨#[]⟩ _ rfl (by rw [getF_swq]; exact HA.out) ((hhr.below hb4).below hb5) (by omega) hn1).mono ?_
              rintro e w6 ⟨rfl, hb6⟩
              go_wp2_with fail
              refine (get_is _ (swapped F) _ _ _ ⟨#[]⟩ _ (swapped_length F) (by rw [getF_swapped]; exact HA.out) (((hgr.below hb4).below hb5).below hb6) (by omega) hn2).mono ?_
              rintro e w7 ⟨rfl, hb7⟩
              go_wp2_with fail
              refine (get_is _ (swapped F) _ _ _ ⟨#[]⟩ _ (swapped_length F) (by rw [getF_swq, getF_swapped]; exact HA.out) ((((hgr.below hb4).below hb5).below hb6).below hb7) (by omega) hn2).mono ?_
              rintro e w8 ⟨rfl, hb8⟩
              have hF8 := ((((hFr.below hb4).below hb5).below hb6).below hb7).below hb8
              have hbb : Below w2.heap.size w2 w8 := (hb3.trans (hb.mono hb3.size)).trans (((((hb4.trans (hb5.mono hb4.size)).trans (hb6.mono (Nat.le_trans hb4.size hb5.size))).trans (hb7.mono (Nat.le_trans hb4.size (Nat.le_trans hb5.size hb6.size)))).trans (hb8.mono (Nat.le_trans hb4.size (Nat.le_trans hb5.size (Nat.le_trans hb6.size hb7.size))))).mono (Nat.le_trans hb3.size hb.size))
              clear hb3 hb hb4 hb5 hb6 hb7 hb8 hhr hgr hFr
              go_wp2_with fail
              refine (first_no _ F _ _ _ hF8 (by omega) hq2 hn1 hA).mono ?_
              rintro e w9 ⟨rfl, hb9⟩
              clear hA
              go_wp2
              go_ret
              exact ⟨rfl, hbb.trans (hb9.mono hbb.size)⟩
            · have hn1 : ∀ f ∈ F, f.1.size ≤ 1048576 := fun f hf => (hs f hf).1
              have hn2 := swapped_small hs
              have HA : Hid (getF F q = F[j].2) := getF_first F q j hj hA1 hA2
              go_wp2_with fail
              refine (swap_any _ hq2 _).mono ?_
              rintro e w4 ⟨rfl, hb4⟩
              go_wp2_with fail
              refine (get_is _ F _ _ _ F[j].2 _ rfl HA.out (hhr.below hb4) (by omega) hn1).mono ?_
              rintro e w5 ⟨rfl, hb5⟩
              go_wp2_with fail
              refine (get_is _ F _ _ _ F[j].2 _ rfl (by rw [getF_swq]; exact HA.out) ((hhr.below hb4).below hb5) (by omega) hn1).mono ?_
              rintro e w6 ⟨rfl, hb6⟩
              go_wp2_with fail
              refine (get_is _ (swapped F) _ _ _ F[j].2 _ (swapped_length F) (by rw [getF_swapped]; exact HA.out) (((hgr.below hb4).below hb5).below hb6) (by omega) hn2).mono ?_
              rintro e w7 ⟨rfl, hb7⟩
              go_wp2_with fail
              refine (get_is _ (swapped F) _ _ _ F[j].2 _ (swapped_length F) (by rw [getF_swq, getF_swapped]; exact HA.out) ((((hgr.below hb4).below hb5).below hb6).below hb7) (by omega) hn2).mono ?_
              rintro e w8 ⟨rfl, hb8⟩
              have hF8 := ((((hFr.below hb4).below hb5).below hb6).below hb7).below hb8
              have hbb : Below w2.heap.size w2 w8 := (hb3.trans (hb.mono hb3.size)).trans (((((hb4.trans (hb5.mono hb4.size)).trans (hb6.mono (Nat.le_trans hb4.size hb5.size))).trans (hb7.mono (Nat.le_trans hb4.size (Nat.le_trans hb5.size hb6.size)))).trans (hb8.mono (Nat.le_trans hb4.size (Nat.le_trans hb5.size (Nat.le_trans hb6.size hb7.size))))).mono (Nat.le_trans hb3.size hb.size))
              clear hb3 hb hb4 hb5 hb6 hb7 hb8 hhr hgr hFr
              go_wp2_with fail
              refine (first_at _ F _ _ _ hF8 (by omega) hq2 hn1 j hj hA1 hA2).mono ?_
              rintro e w9 ⟨rfl, hb9⟩
              clear hA1 hA2
              rcases hF8.below hb9 with rfl | ⟨b, off, rfl, hlt9, hF9⟩
              · exact absurd hj (Nat.not_lt_zero _)
              have hc1 := (hF9 j hj).2
              go_wp2
              go_ret
              exact ⟨rfl, hbb.trans (hb9.mono hbb.size)⟩
    · go_wp2
      go_ret
      exact ⟨rfl, Below.refl _ _⟩
end Go.Proofs.Qxb6628900a
