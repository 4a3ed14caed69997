/-
  The walk of FnVariantsErrSortsOnlyTheReportedMembers.
-/
import Derived.Test.Qxb6628937aFmtState
import Derived.Deep.QuietTactic
import Derived.BigQuiet
namespace Go.Proofs.Qxb6628937aFmt
open Go.RowKit

/-- The cell of a string, and where it lies. -/
theorem strs_cell {w : World} {ao : Option Addr} {T : List (List UInt8)} (h : StrsAt w ao T) {j : Nat} (hj : j < T.length) : ∃ b off, ao = some ⟨b, off, none⟩ ∧ w.cell? ⟨b, off + j, none⟩ = some (sv (T.getD j [])) := by
  rcases h with rfl | ⟨b, off, rfl, _, h⟩
  · exact absurd hj (Nat.not_lt_zero _)
  · exact ⟨b, off, rfl, h j hj⟩
theorem isNone_eq {a b : Option Addr} (h : a = none ↔ b = none) : a.isNone = b.isNone := by
  cases a <;> cases b <;> simp_all
theorem empties_step {g : Held} {k : Nat} (h : ∀ i, i < k → strs g i = []) (hk : strs g k = []) : ∀ i, i < k + 1 → strs g i = [] := by
  intro i hi
  by_cases e : i = k
  · subst e; exact hk
  · exact h i (by omega)
theorem below_drewN {B : Nat} {a w : World} (h : Below B a w) (n : Nat) : Below B a (w.drewN n) := by
  induction n with
  | zero => exact h
  | succ n ih => exact ih.drew

set_option maxRecDepth 100000 in
set_option maxHeartbeats 1600000 in
theorem lawB_big (an : Option Addr) (N : List (List UInt8)) (cn : Nat) (ax : Option Addr) (X : List Bool) (cx : Nat) (m : Option Nat) (g : Held) (w : World) (hnn : an = none → N = [] ∧ cn = 0) (hxn : ax = none → X = [] ∧ cx = 0)
    (hN : StrsAt w an N) (hX : BoolsAt w ax X) (hM : InMap w m g) (hln : N.length ≤ maxLen) (hlx : X.length ≤ maxLen) (hsz : ∀ s ∈ N, s.length ≤ maxLen) (hlg : ∀ i, (strs g i).length ≤ maxLen) (hsg : ∀ i, ∀ s ∈ strs g i, s.length ≤ maxLen) :
    Calls Tryf.prog 4 #[.slice an N.length cn, .slice ax X.length cx, .map m] w fun e w' => e = .returned (.bool true) ∧ Below w.heap.size w w' := by
  go_enter Tryf.func4, Tryf.ntmps4
  go_wp2_with fail
  refine (size_any an N cn ax X cx m g 4096 w (by omega) hN hM hln hlx hsz hlg hsg).mono ?_
  rintro e w1 ⟨hw1, r, rfl, hr⟩
  subst hw1
  clear hsz hlg hsg
  cases r with
  | false =>
    clear hr
    go_wp2
    go_ret
    exact ⟨rfl, Below.refl _ _⟩
  | true =>
    obtain ⟨hN1, hX1, hsh⟩ := hr rfl
    clear hr hln hlx
    by_cases hNX : X.length = N.length
    · have hz : ((X.length : Int) != (N.length : Int)) = false := by simp [hNX]
      have HNX : Hid (X.length = N.length) := hNX
      clear hNX
      have HSH : Hid (ShortTo g 4096 N.length) := hsh
      clear hsh
      go_wp2_with fail
      refine (others_any m g N.length _ hM (by omega) (fun i hi => Nat.le_trans (HSH.out i hi) (by omega))).mono ?_
      rintro e w2 ⟨mb, rfl, hO2, hb2⟩
      have hN2 := hN.below hb2
      have hX2 := hX.below hb2
      have hM2 := hM.below hb2
      have hB2 := hO2.inMap
      clear hN hX hM hO2
      go_wp2_with fail
      refine (cloneS_any an N cn _ hnn hN2 (by omega)).mono ?_
      rintro e w3 ⟨an3, rfl, hN3, hb3⟩
      have hX3 := hX2.below hb3
      have hM3 := hM2.below hb3
      have hB3 := hB2.below hb3
      clear hN2 hX2 hM2 hB2
      go_wp2_with fail
      refine (cloneB_any ax X cx _ hxn hX3 (by omega)).mono ?_
      rintro e w4 ⟨ax4, rfl, hX4, hb4⟩
      have hN4 := hN3.below hb4
      have hM4 := hM3.below hb4
      have hB4 := hB3.below hb4
      clear hN3 hX3 hM3 hB3
      go_wp2_with fail
      refine (others_any m g N.length _ hM4 (by omega) (fun i hi => Nat.le_trans (HSH.out i hi) (by omega))).mono ?_
      rintro e w5 ⟨m5, rfl, hO5, hb5⟩
      have hN5 := hN4.below hb5
      have hX5 := hX4.below hb5
      have hB5 := hB4.below hb5
      have hb14 : Below w1.heap.size w1 w4 := (hb2.trans (hb3.mono hb2.size)).trans (hb4.mono (Nat.le_trans hb2.size hb3.size))
      clear hN4 hX4 hM4 hb2 hb3 hb4
      obtain ⟨tg, g', hT⟩ := target_is (firstK g N.length) X N.length
      have HT : Hid (Target (firstK g N.length) X N.length tg g') := hT
      clear hT
      go_wp2
      go_loop [9, 10] (fun v i => ∃ k : Nat, k ≤ N.length ∧ i = .int .i64 k ∧ v = .int .i64 (-1) ∧ Hid (∀ i, i < k → strs g i = [])) (fun _ i => N.length - (intOf i).toNat)
      case atStart => exact ⟨0, Nat.zero_le _, rfl, rfl, fun i hi => absurd hi (Nat.not_lt_zero _)⟩
      case round =>
        obtain ⟨k, hk, rfl, rfl, hem⟩ := hrel
        by_cases hkl : k < N.length
        · obtain ⟨ab, cb, hlb, _, _, _⟩ := hB5.look (k := k) (by omega)
          rw [strs_firstK hkl] at hlb
          by_cases hS : strs g k = []
          · rw [hS] at hlb
            have HS : Hid (strs g k = []) := hS
            clear hS
            have HB5 : Hid (InMap w5 mb (firstK g N.length)) := hB5
            clear hB5
            go_wp2
            go_round
            case rel => exact ⟨k + 1, by omega, by go_num, rfl, empties_step hem.out HS.out⟩
            case measure => simp [intOf]; omega
          · have hpos : 0 < (strs g k).length := by
              cases hx : strs g k with
              | nil => exact absurd hx hS
              | cons a l => simp
            have hkx : k < X.length := by have := HNX.out; omega
            have hX6 := hX5
            rcases hX5 with rfl | ⟨bx, offx, rfl, hltx, hX5⟩
            · simp at hkx
            have hcx := hX5 k hkx
            have hSK : strs (firstK g N.length) k ≠ [] := by rw [strs_firstK hkl]; exact hS
            have hemK : ∀ i, i < k → strs (firstK g N.length) i = [] := fun i hi => by rw [strs_firstK (by omega)]; exact hem.out i hi
            have hTy := fun hx h2 => HT.out.yes hkl hSK hemK hx h2
            have hTn := fun hx => HT.out.no hSK hemK hx
            rw [strs_firstK hkl] at hTy hTn
            have HY : Hid _ := hTy
            have HN : Hid _ := hTn
            clear hTy hTn hSK hemK hX5 hem
            cases hxk : X.getD k false with
            | true =>
              rw [hxk] at hcx
              obtain rfl : tg = -1 := HN.out (.inl hxk)
              clear HY HN hxk hS
              have hX5 := hX6
              clear hX6
              generalize (strs g k).length = lk at hlb hpos
              have HB5 : Hid (InMap w5 mb (firstK g N.length)) := hB5
              clear hB5
              go_wp2_with fail
              refine (new_any _ _ m5 _ an3 (some ⟨bx, offx, none⟩) _ _ _ _ rfl rfl).mono ?_
              rintro e w6 ⟨rfl, c0, c1, c2, c3, hb6⟩
              have hE := err_state _ _ an3 N N.length (some ⟨bx, offx, none⟩) X X.length m5 (firstK g N.length) w4.heap.size _ (-1) g' c0 c1 c2 c3 (hN5.below hb6) (hX5.below hb6) HNX.out (hO5.below hb6) (Nat.le_trans hb5.size hb6.size) hN1 (fun i hi => by rw [strs_firstK hi]; exact Nat.le_trans (HSH.out i hi) (by omega)) HT.out
              clear c0 c1 c2 c3 hN5 hX5 hO5
              go_wp2_with fail
              refine hE.mono ?_
              clear hE
              rintro e w7 ⟨⟨ve, rfl⟩, hb7, hO7⟩
              have hb47 : Below w4.heap.size w4 w7 := (hb5.trans (hb6.mono hb5.size)).trans hb7
              have hb17 : Below w1.heap.size w1 w7 := hb14.trans (hb47.mono hb14.size)
              have hB7 := hB4.below hb47
              have hI7 := hO7.inMap
              clear hB4 hO7 hb5 hb6 hb7 hb47 hb14
              go_wp2
              go_loopw [12] (fun iv wr => ∃ i : Nat, i ≤ N.length ∧ iv = .int .i64 i ∧ Below w7.heap.size w7 wr) (fun iv _ => N.length - (intOf iv).toNat)
              case atStart => exact ⟨0, Nat.zero_le _, rfl, Below.refl _ _⟩
              case round =>
                obtain ⟨i, hi0, rfl, hbr⟩ := hrel
                obtain ⟨wi, hwi⟩ : ∃ wi : World, wi = wr := ⟨_, rfl⟩
                subst hwi
                by_cases hin : i < N.length
                · have HI : ((i : Nat) : Int) ≠ -1 := by omega
                  have eg : g' i = firstK g N.length i := HT.out.other HI
                  obtain ⟨ab, cb, hlb, hnb, _, hsw⟩ := (hB7.below hbr).look (k := i) (by omega)
                  obtain ⟨ao, co, hlo, hno, _, hso⟩ := (hI7.below hbr).look (k := i) (by omega)
                  have es : strs g' i = strs (firstK g N.length) i := by unfold strs; rw [eg]
                  rw [eg] at hno
                  rw [es] at hlo hso
                  have hiso : ao.isNone = ab.isNone := isNone_eq (hno.trans hnb.symm)
                  have hle : (strs (firstK g N.length) i).length ≤ 65536 := by
                    rw [strs_firstK hin]; exact Nat.le_trans (HSH.out i hin) (by omega)
                  generalize strs (firstK g N.length) i = T at hlb hsw hlo hso hle
                  have hn1 := fun wx => Lib.run_eql_slice_nil (P := Tryf.prog) wx 22 9 ao T.length co 0 0 Tryf.underlying22
                  have hn2 := fun wx => Lib.run_eql_slice_nil (P := Tryf.prog) wx 22 9 ab T.length cb 0 0 Tryf.underlying22
                  rw [hiso] at hn1
                  generalize ab.isNone = nb at hn1 hn2
                  clear eg es hno hnb hiso
                  go_wp2
                  go_loopw [15] (fun jv wq => ∃ (j nq : Nat), j ≤ T.length ∧ jv = .int .i64 j ∧ wq = wi.drewN nq) (fun jv _ => T.length - (intOf jv).toNat)
                  case atStart => exact ⟨0, 0, Nat.zero_le _, rfl, rfl⟩
                  case round =>
                    obtain ⟨j, nq, hj, rfl, rfl⟩ := hrel
                    by_cases hjl : j < T.length
                    · have hc1 := strs_cell hso hjl
                      have hc2 := strs_cell hsw hjl
                      obtain ⟨bo, oo, rfl, hco1⟩ := hc1
                      obtain ⟨bw, ow, rfl, hcw1⟩ := hc2
                      generalize T.getD j [] = sj at hco1 hcw1
                      have hjI : (j : Int) < (T.length : Int) := by omega
                      clear hso hsw
                      go_wp2
                      go_quiet (fail)
                      go_wp2
                      go_roundw
                      case rel => exact ⟨j + 1, _, by omega, by go_num, rfl⟩
                      case measure => simp [intOf]; omega
                    · clear hso hsw
                      go_wp2
                      go_roundw
                      case rel => exact ⟨i + 1, by omega, by go_num, below_drewN hbr _⟩
                      case measure => simp [intOf]; omega
                · clear hB7 hI7
                  go_wp2
                  go_ret
                  exact ⟨rfl, hb17.trans (hbr.mono hb17.size)⟩
            | false =>
              rw [hxk] at hcx
              by_cases h2 : 2 ≤ (strs g k).length
              · obtain rfl : tg = (k : Int) := HY.out hxk h2
                clear HY HN hxk hS
                have hX5 := hX6
                clear hX6
                generalize (strs g k).length = lk at hlb hpos h2
                have HB5 : Hid (InMap w5 mb (firstK g N.length)) := hB5
                clear hB5
                go_wp2_with fail
                refine (new_any _ _ m5 _ an3 (some ⟨bx, offx, none⟩) _ _ _ _ rfl rfl).mono ?_
                rintro e w6 ⟨rfl, c0, c1, c2, c3, hb6⟩
                have hE := err_state _ _ an3 N N.length (some ⟨bx, offx, none⟩) X X.length m5 (firstK g N.length) w4.heap.size _ (k : Int) g' c0 c1 c2 c3 (hN5.below hb6) (hX5.below hb6) HNX.out (hO5.below hb6) (Nat.le_trans hb5.size hb6.size) hN1 (fun i hi => by rw [strs_firstK hi]; exact Nat.le_trans (HSH.out i hi) (by omega)) HT.out
                clear c0 c1 c2 c3 hN5 hX5 hO5
                go_wp2_with fail
                refine hE.mono ?_
                clear hE
                rintro e w7 ⟨⟨ve, rfl⟩, hb7, hO7⟩
                have hb47 : Below w4.heap.size w4 w7 := (hb5.trans (hb6.mono hb5.size)).trans hb7
                have hb17 : Below w1.heap.size w1 w7 := hb14.trans (hb47.mono hb14.size)
                have hB7 := hB4.below hb47
                have hI7 := hO7.inMap
                clear hB4 hO7 hb5 hb6 hb7 hb47 hb14
                go_wp2
                go_loopw [12] (fun iv wr => ∃ i : Nat, i ≤ N.length ∧ iv = .int .i64 i ∧ Below w7.heap.size w7 wr) (fun iv _ => N.length - (intOf iv).toNat)
                case atStart => exact ⟨0, Nat.zero_le _, rfl, Below.refl _ _⟩
                case round =>
                  obtain ⟨i, hi0, rfl, hbr⟩ := hrel
                  obtain ⟨wi, hwi⟩ : ∃ wi : World, wi = wr := ⟨_, rfl⟩
                  subst hwi
                  by_cases hin : i < N.length
                  · by_cases hi : (i : Int) = (k : Int)
                    · have hh := HT.out.here hi
                      obtain ⟨ab, cb, hlb, hnb, _, hsb⟩ := (hB7.below hbr).look (k := i) (by omega)
                      obtain ⟨hg1, hg2, hg3⟩ := hh
                      have hle : (strs (firstK g N.length) i).length ≤ 65536 := by
                        rw [strs_firstK hin]; exact Nat.le_trans (HSH.out i hin) (by omega)
                      have es : strs g' i = srt (strs (firstK g N.length) i) := strs_of hg3
                      rw [hg1] at hnb
                      generalize strs (firstK g N.length) i = T at hlb hsb hg2 hle es hg3 hnb
                      cases ab with
                      | none => exact absurd (hnb.1 rfl) (by simp)
                      | some a =>
                        have hcmp : ((i : Int) == (k : Int)) = true := by simpa using hi
                        have HI2 : Hid ((i : Int) = (k : Int)) := hi
                        clear hi hnb hg1
                        go_wp2_with fail
                        refine (ins_any a T cb _ hsb hg2 hle).mono ?_
                        rintro e w9 ⟨r, rfl, hrow, hb9⟩
                        obtain ⟨ao, co, hlo, hno, _, hso⟩ := ((hI7.below hbr).below hb9).look (k := i) (by omega)
                        have hsw0 := strsAt_row (S := srt T) (by rw [srt_length]; exact hrow)
                        rw [es, srt_length] at hlo
                        rw [es] at hso
                        rw [hg3] at hno
                        have hiso : ao.isNone = false := by
                          cases ao with
                          | none => exact absurd (hno.1 rfl) (by simp)
                          | some a => rfl
                        have hsw := hsw0
                        have hn1 := fun wx => Lib.run_eql_slice_nil (P := Tryf.prog) wx 22 9 ao T.length co 0 0 Tryf.underlying22
                        have hn2 := fun wx => Lib.run_eql_slice_nil (P := Tryf.prog) wx 22 9 (some ⟨r, 0, none⟩) T.length T.length 0 0 Tryf.underlying22
                        rw [hiso] at hn1
                        have hlT : (srt T).length = T.length := srt_length T
                        have HLT : Hid ((srt T).length = T.length) := hlT
                        clear hlT hiso hno es hg3 hlb hsb hsw0
                        go_wp2
                        go_loopw [15] (fun jv wq => ∃ (j nq : Nat), j ≤ T.length ∧ jv = .int .i64 j ∧ wq = w9.drewN nq) (fun jv _ => T.length - (intOf jv).toNat)
                        case atStart => exact ⟨0, 0, Nat.zero_le _, rfl, rfl⟩
                        case round =>
                          obtain ⟨j, nq, hj, rfl, rfl⟩ := hrel
                          by_cases hjl : j < T.length
                          · have hc1 := strs_cell hso (by rw [HLT.out]; exact hjl)
                            have hcw1 : w9.cell? ⟨r, j, none⟩ = some (sv ((srt T).getD j [])) := hrow.cell hjl
                            obtain ⟨bo, oo, rfl, hco1⟩ := hc1
                            clear hrow
                            generalize (srt T).getD j [] = sj at hco1 hcw1
                            have hjI : (j : Int) < (T.length : Int) := by omega
                            clear hso hsw
                            go_wp2
                            go_quiet (fail)
                            go_wp2
                            go_roundw
                            case rel => exact ⟨j + 1, _, by omega, by go_num, rfl⟩
                            case measure => simp [intOf]; omega
                          · clear hso hsw
                            go_wp2
                            go_roundw
                            case rel => exact ⟨i + 1, by omega, by go_num, below_drewN (hbr.trans (hb9.mono hbr.size)) _⟩
                            case measure => simp [intOf]; omega
                    · have HI : ((i : Nat) : Int) ≠ (k : Int) := hi
                      have hcmp : ((i : Int) == (k : Int)) = false := by simpa using hi
                      clear hi
                      have eg : g' i = firstK g N.length i := HT.out.other HI
                      obtain ⟨ab, cb, hlb, hnb, _, hsw⟩ := (hB7.below hbr).look (k := i) (by omega)
                      obtain ⟨ao, co, hlo, hno, _, hso⟩ := (hI7.below hbr).look (k := i) (by omega)
                      have es : strs g' i = strs (firstK g N.length) i := by unfold strs; rw [eg]
                      rw [eg] at hno
                      rw [es] at hlo hso
                      have hiso : ao.isNone = ab.isNone := isNone_eq (hno.trans hnb.symm)
                      have hle : (strs (firstK g N.length) i).length ≤ 65536 := by
                        rw [strs_firstK hin]; exact Nat.le_trans (HSH.out i hin) (by omega)
                      generalize strs (firstK g N.length) i = T at hlb hsw hlo hso hle
                      have hn1 := fun wx => Lib.run_eql_slice_nil (P := Tryf.prog) wx 22 9 ao T.length co 0 0 Tryf.underlying22
                      have hn2 := fun wx => Lib.run_eql_slice_nil (P := Tryf.prog) wx 22 9 ab T.length cb 0 0 Tryf.underlying22
                      rw [hiso] at hn1
                      generalize ab.isNone = nb at hn1 hn2
                      clear eg es hno hnb hiso
                      go_wp2
                      go_loopw [15] (fun jv wq => ∃ (j nq : Nat), j ≤ T.length ∧ jv = .int .i64 j ∧ wq = wi.drewN nq) (fun jv _ => T.length - (intOf jv).toNat)
                      case atStart => exact ⟨0, 0, Nat.zero_le _, rfl, rfl⟩
                      case round =>
                        obtain ⟨j, nq, hj, rfl, rfl⟩ := hrel
                        by_cases hjl : j < T.length
                        · have hc1 := strs_cell hso hjl
                          have hc2 := strs_cell hsw hjl
                          obtain ⟨bo, oo, rfl, hco1⟩ := hc1
                          obtain ⟨bw, ow, rfl, hcw1⟩ := hc2
                          generalize T.getD j [] = sj at hco1 hcw1
                          have hjI : (j : Int) < (T.length : Int) := by omega
                          clear hso hsw
                          go_wp2
                          go_quiet (fail)
                          go_wp2
                          go_roundw
                          case rel => exact ⟨j + 1, _, by omega, by go_num, rfl⟩
                          case measure => simp [intOf]; omega
                        · clear hso hsw
                          go_wp2
                          go_roundw
                          case rel => exact ⟨i + 1, by omega, by go_num, below_drewN hbr _⟩
                          case measure => simp [intOf]; omega
                  · clear hB7 hI7
                    go_wp2
                    go_ret
                    exact ⟨rfl, hb17.trans (hbr.mono hb17.size)⟩
              · obtain rfl : tg = -1 := HN.out (.inr (by omega))
                clear HY HN hxk hS
                have hX5 := hX6
                clear hX6
                generalize (strs g k).length = lk at hlb hpos h2
                have HB5 : Hid (InMap w5 mb (firstK g N.length)) := hB5
                clear hB5
                go_wp2_with fail
                refine (new_any _ _ m5 _ an3 (some ⟨bx, offx, none⟩) _ _ _ _ rfl rfl).mono ?_
                rintro e w6 ⟨rfl, c0, c1, c2, c3, hb6⟩
                have hE := err_state _ _ an3 N N.length (some ⟨bx, offx, none⟩) X X.length m5 (firstK g N.length) w4.heap.size _ (-1) g' c0 c1 c2 c3 (hN5.below hb6) (hX5.below hb6) HNX.out (hO5.below hb6) (Nat.le_trans hb5.size hb6.size) hN1 (fun i hi => by rw [strs_firstK hi]; exact Nat.le_trans (HSH.out i hi) (by omega)) HT.out
                clear c0 c1 c2 c3 hN5 hX5 hO5
                go_wp2_with fail
                refine hE.mono ?_
                clear hE
                rintro e w7 ⟨⟨ve, rfl⟩, hb7, hO7⟩
                have hb47 : Below w4.heap.size w4 w7 := (hb5.trans (hb6.mono hb5.size)).trans hb7
                have hb17 : Below w1.heap.size w1 w7 := hb14.trans (hb47.mono hb14.size)
                have hB7 := hB4.below hb47
                have hI7 := hO7.inMap
                clear hB4 hO7 hb5 hb6 hb7 hb47 hb14
                go_wp2
                go_loopw [12] (fun iv wr => ∃ i : Nat, i ≤ N.length ∧ iv = .int .i64 i ∧ Below w7.heap.size w7 wr) (fun iv _ => N.length - (intOf iv).toNat)
                case atStart => exact ⟨0, Nat.zero_le _, rfl, Below.refl _ _⟩
                case round =>
                  obtain ⟨i, hi0, rfl, hbr⟩ := hrel
                  obtain ⟨wi, hwi⟩ : ∃ wi : World, wi = wr := ⟨_, rfl⟩
                  subst hwi
                  by_cases hin : i < N.length
                  · have HI : ((i : Nat) : Int) ≠ -1 := by omega
                    have eg : g' i = firstK g N.length i := HT.out.other HI
                    obtain ⟨ab, cb, hlb, hnb, _, hsw⟩ := (hB7.below hbr).look (k := i) (by omega)
                    obtain ⟨ao, co, hlo, hno, _, hso⟩ := (hI7.below hbr).look (k := i) (by omega)
                    have es : strs g' i = strs (firstK g N.length) i := by unfold strs; rw [eg]
                    rw [eg] at hno
                    rw [es] at hlo hso
                    have hiso : ao.isNone = ab.isNone := isNone_eq (hno.trans hnb.symm)
                    have hle : (strs (firstK g N.length) i).length ≤ 65536 := by
                      rw [strs_firstK hin]; exact Nat.le_trans (HSH.out i hin) (by omega)
                    generalize strs (firstK g N.length) i = T at hlb hsw hlo hso hle
                    have hn1 := fun wx => Lib.run_eql_slice_nil (P := Tryf.prog) wx 22 9 ao T.length co 0 0 Tryf.underlying22
                    have hn2 := fun wx => Lib.run_eql_slice_nil (P := Tryf.prog) wx 22 9 ab T.length cb 0 0 Tryf.underlying22
                    rw [hiso] at hn1
                    generalize ab.isNone = nb at hn1 hn2
                    clear eg es hno hnb hiso
                    go_wp2
                    go_loopw [15] (fun jv wq => ∃ (j nq : Nat), j ≤ T.length ∧ jv = .int .i64 j ∧ wq = wi.drewN nq) (fun jv _ => T.length - (intOf jv).toNat)
                    case atStart => exact ⟨0, 0, Nat.zero_le _, rfl, rfl⟩
                    case round =>
                      obtain ⟨j, nq, hj, rfl, rfl⟩ := hrel
                      by_cases hjl : j < T.length
                      · have hc1 := strs_cell hso hjl
                        have hc2 := strs_cell hsw hjl
                        obtain ⟨bo, oo, rfl, hco1⟩ := hc1
                        obtain ⟨bw, ow, rfl, hcw1⟩ := hc2
                        generalize T.getD j [] = sj at hco1 hcw1
                        have hjI : (j : Int) < (T.length : Int) := by omega
                        clear hso hsw
                        go_wp2
                        go_quiet (fail)
                        go_wp2
                        go_roundw
                        case rel => exact ⟨j + 1, _, by omega, by go_num, rfl⟩
                        case measure => simp [intOf]; omega
                      · clear hso hsw
                        go_wp2
                        go_roundw
                        case rel => exact ⟨i + 1, by omega, by go_num, below_drewN hbr _⟩
                        case measure => simp [intOf]; omega
                  · clear hB7 hI7
                    go_wp2
                    go_ret
                    exact ⟨rfl, hb17.trans (hbr.mono hb17.size)⟩
        · obtain rfl : k = N.length := by omega
          obtain rfl : tg = -1 := HT.out.none (fun i hi => by rw [strs_firstK hi]; exact hem.out i hi)
          have HB5 : Hid (InMap w5 mb (firstK g N.length)) := hB5
          clear hB5 hem
          go_wp2_with fail
          refine (new_any _ _ m5 _ an3 ax4 _ _ _ _ rfl rfl).mono ?_
          rintro e w6 ⟨rfl, c0, c1, c2, c3, hb6⟩
          have hE := err_state _ _ an3 N N.length ax4 X X.length m5 (firstK g N.length) w4.heap.size _ (-1) g' c0 c1 c2 c3 (hN5.below hb6) (hX5.below hb6) HNX.out (hO5.below hb6) (Nat.le_trans hb5.size hb6.size) hN1 (fun i hi => by rw [strs_firstK hi]; exact Nat.le_trans (HSH.out i hi) (by omega)) HT.out
          clear c0 c1 c2 c3 hN5 hX5 hO5
          go_wp2_with fail
          refine hE.mono ?_
          clear hE
          rintro e w7 ⟨⟨ve, rfl⟩, hb7, hO7⟩
          have hb47 : Below w4.heap.size w4 w7 := (hb5.trans (hb6.mono hb5.size)).trans hb7
          have hb17 : Below w1.heap.size w1 w7 := hb14.trans (hb47.mono hb14.size)
          have hB7 := hB4.below hb47
          have hI7 := hO7.inMap
          clear hB4 hO7 hb5 hb6 hb7 hb47 hb14
          go_wp2
          go_loopw [12] (fun iv wr => ∃ i : Nat, i ≤ N.length ∧ iv = .int .i64 i ∧ Below w7.heap.size w7 wr) (fun iv _ => N.length - (intOf iv).toNat)
          case atStart => exact ⟨0, Nat.zero_le _, rfl, Below.refl _ _⟩
          case round =>
            obtain ⟨i, hi0, rfl, hbr⟩ := hrel
            obtain ⟨wi, hwi⟩ : ∃ wi : World, wi = wr := ⟨_, rfl⟩
            subst hwi
            by_cases hin : i < N.length
            · have HI : ((i : Nat) : Int) ≠ -1 := by omega
              have eg : g' i = firstK g N.length i := HT.out.other HI
              obtain ⟨ab, cb, hlb, hnb, _, hsw⟩ := (hB7.below hbr).look (k := i) (by omega)
              obtain ⟨ao, co, hlo, hno, _, hso⟩ := (hI7.below hbr).look (k := i) (by omega)
              have es : strs g' i = strs (firstK g N.length) i := by unfold strs; rw [eg]
              rw [eg] at hno
              rw [es] at hlo hso
              have hiso : ao.isNone = ab.isNone := isNone_eq (hno.trans hnb.symm)
              have hle : (strs (firstK g N.length) i).length ≤ 65536 := by
                rw [strs_firstK hin]; exact Nat.le_trans (HSH.out i hin) (by omega)
              generalize strs (firstK g N.length) i = T at hlb hsw hlo hso hle
              have hn1 := fun wx => Lib.run_eql_slice_nil (P := Tryf.prog) wx 22 9 ao T.length co 0 0 Tryf.underlying22
              have hn2 := fun wx => Lib.run_eql_slice_nil (P := Tryf.prog) wx 22 9 ab T.length cb 0 0 Tryf.underlying22
              rw [hiso] at hn1
              generalize ab.isNone = nb at hn1 hn2
              clear eg es hno hnb hiso
              go_wp2
              go_loopw [15] (fun jv wq => ∃ (j nq : Nat), j ≤ T.length ∧ jv = .int .i64 j ∧ wq = wi.drewN nq) (fun jv _ => T.length - (intOf jv).toNat)
              case atStart => exact ⟨0, 0, Nat.zero_le _, rfl, rfl⟩
              case round =>
                obtain ⟨j, nq, hj, rfl, rfl⟩ := hrel
                by_cases hjl : j < T.length
                · have hc1 := strs_cell hso hjl
                  have hc2 := strs_cell hsw hjl
                  obtain ⟨bo, oo, rfl, hco1⟩ := hc1
                  obtain ⟨bw, ow, rfl, hcw1⟩ := hc2
                  generalize T.getD j [] = sj at hco1 hcw1
                  have hjI : (j : Int) < (T.length : Int) := by omega
                  clear hso hsw
                  go_wp2
                  go_quiet (fail)
                  go_wp2
                  go_roundw
                  case rel => exact ⟨j + 1, _, by omega, by go_num, rfl⟩
                  case measure => simp [intOf]; omega
                · clear hso hsw
                  go_wp2
                  go_roundw
                  case rel => exact ⟨i + 1, by omega, by go_num, below_drewN hbr _⟩
                  case measure => simp [intOf]; omega
            · clear hB7 hI7
              go_wp2
              go_ret
              exact ⟨rfl, hb17.trans (hbr.mono hb17.size)⟩
    · have hz : ((X.length : Int) != (N.length : Int)) = true := by simp; omega
      clear hNX
      go_wp2
      go_ret
      exact ⟨rfl, Below.refl _ _⟩
end Go.Proofs.Qxb6628937aFmt
