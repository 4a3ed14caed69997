/-
  The walk of FnGetInsertedFieldIsFoundUnlessAnEarlierOneHasTheName.
-/
import Derived.Test.Qxb6628900aIns
namespace Go.Proofs.Qxb6628900a
open Go.RowKit Plain

theorem pcell_append {w : World} {g n j : Nat} {G : List (ByteArray × ByteArray)} {a b : ByteArray} (hj : j < G.length) (e : G[j] = (a, b)) (h : w.rowIs g 30 (n * 2) (pcell G j)) (o : Obj) :
    ((w.alloc o).setCells g (j * 2) [.string a, .string b]).rowIs g 30 (n * 2) (pcell G (j + 1)) := pcell_step' hj e (h.alloc o)
theorem pcell_append_drew {w : World} {g n j : Nat} {G : List (ByteArray × ByteArray)} {a b : ByteArray} (hj : j < G.length) (e : G[j] = (a, b)) (h : w.rowIs g 30 (n * 2) (pcell G j)) (o : Obj) :
    ((w.alloc o).drew.setCells g (j * 2) [.string a, .string b]).rowIs g 30 (n * 2) (pcell G (j + 1)) := pcell_step' hj e (h.alloc o).drew
theorem below_append {B : Nat} {w w' : World} {g j : Nat} {x y : Value} (h : Below B w w') (hB : B ≤ w.heap.size) (hg : B ≤ g) (o : Obj) : Below B w ((w'.alloc o).setCells g j [x, y]) :=
  ((h.alloc (Nat.le_trans hB h.size) o).setCell (p := ⟨g, j, none⟩) hg x).setCell (p := ⟨g, j + 1, none⟩) hg y
theorem below_append_drew {B : Nat} {w w' : World} {g j : Nat} {x y : Value} (h : Below B w w') (hB : B ≤ w.heap.size) (hg : B ≤ g) (o : Obj) : Below B w ((w'.alloc o).drew.setCells g j [x, y]) :=
  ((h.alloc (Nat.le_trans hB h.size) o).drew.setCell (p := ⟨g, j, none⟩) hg x).setCell (p := ⟨g, j + 1, none⟩) hg y

set_option maxRecDepth 100000 in
set_option maxHeartbeats 2000000 in
theorem lawA_big (ao : Option Addr) (F : List (ByteArray × ByteArray)) (cap : Nat) (k0 : Int) (v q : ByteArray) (w : World) (hnil : ao = none → F = [] ∧ cap = 0) (hF : Held w ao F) (hl : F.length ≤ maxLen) (hv : v.size ≤ maxLen) (hq : q.size ≤ maxLen) (hn : ∀ f ∈ F, f.1.size ≤ maxLen ∧ f.2.size ≤ maxLen) :
    Calls Try.prog 3 #[.slice ao F.length cap, .int .i64 k0, .string v, .string q] w fun e w' => e = .returned (.bool true) ∧ Below w.heap.size w w' := by
  obtain ⟨i0, HI, HZ⟩ : ∃ i0, Hid (Try.prog.info? 30 = some i0) ∧ Hid (i0.size = 2) := by
    obtain ⟨i0, hi0, _, hz1, _⟩ := info_parts Try.info30
    exact ⟨i0, hi0, hz1⟩
  go_enter Try.func3, Try.ntmps3
  go_wp2_with fail
  refine (bytes5 _ _ _ _ _ _ _ hF hl hv hq hn).mono ?_
  rintro e w1 ⟨rfl, r, rfl, hr⟩
  cases r with
  | false =>
    clear hr
    go_wp2
    go_ret
    exact ⟨rfl, Below.refl _ _⟩
  | true =>
    obtain ⟨hl2, hs, hv2, hq2⟩ := hr rfl
    clear hr hl hq hn hv
    by_cases hl3 : F.length ≤ 65536
    · go_wp2_with fail
      refine (small_any _ _ _ _ _ hF hl2 (by omega) hs).mono ?_
      rintro e w2 ⟨rfl, r, rfl, _⟩
      cases r with
      | false =>
        go_wp2
        go_ret
        exact ⟨rfl, Below.refl _ _⟩
      | true =>
        by_cases hk0 : 0 ≤ k0 ∧ k0 ≤ F.length
        · obtain ⟨k, rfl⟩ : ∃ k : Nat, k0 = k := ⟨k0.toNat, by omega⟩
          have hkF : k ≤ F.length := by omega
          clear hk0
          go_wp2_with fail
          refine (header_any _ _ _ _ hnil hF (by omega)).mono ?_
          rintro e w3 ⟨ho, rfl, hh, hb3⟩
          have hF3 := hF.below hb3
          clear hF
          have hmk := fun wx => make_header 0 ((F.length : Int) + 1) (by omega) (by omega) (by omega) wx
          simp only [show ((F.length : Int) + 1).toNat = F.length + 1 from by omega, show (0 : Int).toNat = 0 from rfl] at hmk
          go_wp2
          go_loopw [10, 11] (fun h i wr => ∃ j : Nat, j ≤ k ∧ i = .int .i64 j ∧ h = .slice (some ⟨w3.heap.size, 0, none⟩) j (F.length + 1) ∧ wr.rowIs w3.heap.size 30 ((F.length + 1) * 2) (pcell (ins F (swpS q, v) k) j) ∧ Below w3.heap.size w3 wr) (fun _ i _ => k - (intOf i).toNat)
          case atStart => exact ⟨0, Nat.zero_le _, rfl, rfl, made_pairs _ _ _, (Below.refl _ _).alloc (Nat.le_refl _) _⟩
          case round =>
            obtain ⟨j, hj, rfl, rfl, hrow, hb⟩ := hrel
            by_cases hjk : j < k
            · rcases hF3 with rfl | ⟨b, off, rfl, hlt, hF3⟩
              · exact absurd hkF (by simp; omega)
              have hjF : j < F.length := by omega
              have hc0 := ((hF3.below hb hlt) j hjF).1
              have hc1 := ((hF3.below hb hlt) j hjF).2
              clear hmk
              go_wp2
              go_region_law (refine step_append_room rfl (.tmp 63) (.tmp 75) 26 rfl 30 i0 2 Try.underlying26 HI.out HZ.out w3.heap.size 0 j (F.length + 1) (by simp [Act.eval]) ⟨wr.heap.size, 0, none⟩ 1 1 [.string F[j].1, .string F[j].2] (by simp [Act.eval]) rfl (app_news _ _ _) (two_ones _ _) (by omega) (app_spare hrow (by omega) _) ?_)
              all_goals
                go_wp2
                go_roundw
                case rel => exact ⟨j + 1, by omega, by go_num, rfl, pcell_append_drew (by rw [ins_length hkF]; omega) (ins_before hjk hkF) hrow _, below_append_drew hb (Nat.le_refl _) (Nat.le_refl _) _⟩
                case measure => simp [intOf]; omega
            · obtain rfl : j = k := by omega
              clear hmk
              go_wp2_with fail
              refine (swap_any _ hq2 _).mono ?_
              rintro e w4 ⟨rfl, hb4⟩
              have hrow4 := hrow.of_block (hb4.block _ hrow.lt)
              have hb34 : Below w3.heap.size w3 w4 := hb.trans (hb4.mono hb.size)
              have hF4 := hF3.below hb34
              have hh4 := hh.below hb34
              clear hrow hb hb4
              go_wp2_with (at_builtin; refine wpList_append_room _ rfl (.tmp 77) (.tmp 82) 26 rfl 30 i0 2 Try.underlying26 HI.out HZ.out w3.heap.size 0 j (F.length + 1) rfl ⟨w4.heap.size, 0, none⟩ 1 1 [.string (swpS q), .string v] rfl rfl (app_news _ _ _) (two_ones _ _) (by omega) (app_spare hrow4 (by omega) _) ?_)
              have hrow5 := pcell_append (a := swpS q) (b := v) (by rw [ins_length hkF]; omega) (ins_here hkF) hrow4 (.cells #[.string (swpS q), .string v] 30)
              have hb35 := below_append (g := w3.heap.size) (j := j * 2) (x := .string (swpS q)) (y := .string v) hb34 (Nat.le_refl _) (Nat.le_refl _) (.cells #[.string (swpS q), .string v] 30)
              clear hrow4 hF4 hh4 hb34
              go_loopw [10, 12] (fun h i wr => ∃ m : Nat, j ≤ m ∧ m ≤ F.length ∧ i = .int .i64 m ∧ h = .slice (some ⟨w3.heap.size, 0, none⟩) (m + 1) (F.length + 1) ∧ wr.rowIs w3.heap.size 30 ((F.length + 1) * 2) (pcell (ins F (swpS q, v) j) (m + 1)) ∧ Below w3.heap.size w3 wr) (fun _ i _ => F.length - (intOf i).toNat)
              case atStart => exact ⟨j, Nat.le_refl _, hkF, rfl, rfl, hrow5, hb35⟩
              case round =>
                obtain ⟨m, hm1, hm2, rfl, rfl, hrow, hb⟩ := hrel
                clear hrow5 hb35
                by_cases hjk : m < F.length
                · rcases hF3 with rfl | ⟨b, off, rfl, hlt, hF3⟩
                  · exact absurd hjk (Nat.not_lt_zero _)
                  have hc0 := ((hF3.below hb hlt) m hjk).1
                  have hc1 := ((hF3.below hb hlt) m hjk).2
                  go_wp2
                  go_region_law (refine step_append_room rfl (.tmp 91) (.tmp 103) 26 rfl 30 i0 2 Try.underlying26 HI.out HZ.out w3.heap.size 0 (m + 1) (F.length + 1) (by simp [Act.eval]) ⟨wr.heap.size, 0, none⟩ 1 1 [.string F[m].1, .string F[m].2] (by simp [Act.eval]) rfl (app_news _ _ _) (two_ones _ _) (by omega) (app_spare hrow (by omega) _) ?_)
                  all_goals
                    go_wp2
                    go_roundw
                    case rel => exact ⟨m + 1, by omega, by omega, by go_num, rfl, pcell_append_drew (by rw [ins_length hkF]; omega) (ins_after hm1 hjk) hrow _, below_append_drew hb (Nat.le_refl _) (Nat.le_refl _) _⟩
                    case measure => simp [intOf]; omega
                · obtain rfl : m = F.length := by omega
                  rcases first_cases F q with hA | ⟨n, hn, hA1, hA2⟩
                  · have hgr : Held wr (some ⟨w3.heap.size, 0, none⟩) (ins F (swpS q, v) j) := .inr ⟨_, _, rfl, hrow.lt, pcell_has (n := F.length + 1) (by rw [ins_length hkF]; exact Nat.le_refl _) (by rw [ins_length hkF]; exact hrow)⟩
                    have hFr := hF3.below hb
                    have hhr := hh.below hb
                    have hn1 : ∀ f ∈ F, f.1.size ≤ 1048576 := fun f hf => (hs f hf).1
                    have hn2 := ins_small (v := v) (k := j) hs hq2
                    clear hrow hF3 hh
                    have HA : Hid (getF F q = ⟨#[]⟩) := getF_none F q hA
                    have HB : Hid (getF (ins F (swpS q, v) j) q = v) := getF_ins_new fun i hi _ => hA i hi
                    go_wp2_with fail
                    refine (get_is _ F _ _ _ ⟨#[]⟩ _ rfl HA.out hhr (by omega) hn1).mono ?_
                    rintro e w5 ⟨rfl, hb5⟩
                    go_wp2_with fail
                    refine (get_is _ (ins F (swpS q, v) j) _ _ _ v _ (ins_length hkF) HB.out (hgr.below hb5) (by omega) hn2).mono ?_
                    rintro e w6 ⟨rfl, hb6⟩
                    have hF6 := (hFr.below hb5).below hb6
                    have hbb : Below w2.heap.size w2 w6 := (hb3.trans (hb.mono hb3.size)).trans ((hb5.trans (hb6.mono hb5.size)).mono (Nat.le_trans hb3.size hb.size))
                    clear hb3 hb hb5 hb6 hhr hgr hFr
                    go_wp2_with fail
                    refine (first_no _ F _ _ _ hF6 (by omega) hq2 hn1 hA).mono ?_
                    rintro e w7 ⟨rfl, hb7⟩
                    clear hA
                    go_wp2
                    go_ret
                    exact ⟨rfl, hbb.trans (hb7.mono hbb.size)⟩
                  · by_cases hnj : n < j
                    · have hgr : Held wr (some ⟨w3.heap.size, 0, none⟩) (ins F (swpS q, v) j) := .inr ⟨_, _, rfl, hrow.lt, pcell_has (n := F.length + 1) (by rw [ins_length hkF]; exact Nat.le_refl _) (by rw [ins_length hkF]; exact hrow)⟩
                      have hFr := hF3.below hb
                      have hhr := hh.below hb
                      have hn1 : ∀ f ∈ F, f.1.size ≤ 1048576 := fun f hf => (hs f hf).1
                      have hn2 := ins_small (v := v) (k := j) hs hq2
                      clear hrow hF3 hh
                      have HA : Hid (getF F q = F[n].2) := getF_first F q n hn hA1 hA2
                      have HB : Hid (getF (ins F (swpS q, v) j) q = F[n].2) := getF_ins_old hkF hnj hA1 hA2
                      go_wp2_with fail
                      refine (get_is _ F _ _ _ F[n].2 _ rfl HA.out hhr (by omega) hn1).mono ?_
                      rintro e w5 ⟨rfl, hb5⟩
                      go_wp2_with fail
                      refine (get_is _ (ins F (swpS q, v) j) _ _ _ F[n].2 _ (ins_length hkF) HB.out (hgr.below hb5) (by omega) hn2).mono ?_
                      rintro e w6 ⟨rfl, hb6⟩
                      have hF6 := (hFr.below hb5).below hb6
                      have hbb : Below w2.heap.size w2 w6 := (hb3.trans (hb.mono hb3.size)).trans ((hb5.trans (hb6.mono hb5.size)).mono (Nat.le_trans hb3.size hb.size))
                      clear hb3 hb hb5 hb6 hhr hgr hFr
                      go_wp2_with fail
                      refine (first_at _ F _ _ _ hF6 (by omega) hq2 hn1 n hn hA1 hA2).mono ?_
                      rintro e w7 ⟨rfl, hb7⟩
                      clear hA1 hA2
                      rcases hF6.below hb7 with rfl | ⟨b, off, rfl, hlt7, hF7⟩
                      · exact absurd hn (Nat.not_lt_zero _)
                      have hc1 := (hF7 n hn).2
                      go_wp2
                      go_ret
                      exact ⟨rfl, hbb.trans (hb7.mono hbb.size)⟩
                    · have hgr : Held wr (some ⟨w3.heap.size, 0, none⟩) (ins F (swpS q, v) j) := .inr ⟨_, _, rfl, hrow.lt, pcell_has (n := F.length + 1) (by rw [ins_length hkF]; exact Nat.le_refl _) (by rw [ins_length hkF]; exact hrow)⟩
                      have hFr := hF3.below hb
                      have hhr := hh.below hb
                      have hn1 : ∀ f ∈ F, f.1.size ≤ 1048576 := fun f hf => (hs f hf).1
                      have hn2 := ins_small (v := v) (k := j) hs hq2
                      clear hrow hF3 hh
                      have HA : Hid (getF F q = F[n].2) := getF_first F q n hn hA1 hA2
                      have HB : Hid (getF (ins F (swpS q, v) j) q = v) := getF_ins_new fun i hi hij => hA2 i hi (by omega)
                      go_wp2_with fail
                      refine (get_is _ F _ _ _ F[n].2 _ rfl HA.out hhr (by omega) hn1).mono ?_
                      rintro e w5 ⟨rfl, hb5⟩
                      go_wp2_with fail
                      refine (get_is _ (ins F (swpS q, v) j) _ _ _ v _ (ins_length hkF) HB.out (hgr.below hb5) (by omega) hn2).mono ?_
                      rintro e w6 ⟨rfl, hb6⟩
                      have hF6 := (hFr.below hb5).below hb6
                      have hbb : Below w2.heap.size w2 w6 := (hb3.trans (hb.mono hb3.size)).trans ((hb5.trans (hb6.mono hb5.size)).mono (Nat.le_trans hb3.size hb.size))
                      clear hb3 hb hb5 hb6 hhr hgr hFr
                      go_wp2_with fail
                      refine (first_at _ F _ _ _ hF6 (by omega) hq2 hn1 n hn hA1 hA2).mono ?_
                      rintro e w7 ⟨rfl, hb7⟩
                      clear hA1 hA2
                      rcases hF6.below hb7 with rfl | ⟨b, off, rfl, hlt7, hF7⟩
                      · exact absurd hn (Nat.not_lt_zero _)
                      have hc1 := (hF7 n hn).2
                      go_wp2
                      go_ret
                      exact ⟨rfl, hbb.trans (hb7.mono hbb.size)⟩
        · clear hs
          by_cases hneg : k0 < 0
          · go_wp2
            go_ret
            exact ⟨rfl, Below.refl _ _⟩
          · go_wp2
            go_ret
            exact ⟨rfl, Below.refl _ _⟩
    · go_wp2
      go_ret
      exact ⟨rfl, Below.refl _ _⟩
end Go.Proofs.Qxb6628900a
