/-
  The walk of zzDecimalModel.
-/
import Derived.Test.Qxb6629990aParse
import Derived.Deep.DeepCutAuto
import Derived.Deep.QuietTactic
import Derived.BigQuiet
namespace Go.Proofs.Qxb6629990a
open Go.RowKit Plain

theorem drawn_two (w : World) (a b : Nat) : ∃ n, (w.drewN a).drewN b = w.drewN n := ⟨a + b, by rw [World.drewN_drewN]⟩
theorem drawn_three (w : World) (a b c : Nat) : ∃ n, ((w.drewN a).drewN b).drewN c = w.drewN n := by
  obtain ⟨m, e⟩ := drawn_two w a b
  rw [e]
  exact drawn_two w m c

def topS : ByteArray := { data := #[49, 56, 52, 52, 54, 55, 52, 52, 48, 55, 51, 55, 48, 57, 53, 53, 49, 54, 49, 53] }
theorem topS_size : topS.size = 20 := rfl
theorem top_at (m : Nat) (h : m < 20) : (topS[m]'(by rw [topS_size]; exact h)).toNat = top[m]'h := by
  have : ∀ i : Fin 20, (topS[i.1]'(by rw [topS_size]; exact i.2)).toNat = top[i.1]'i.2 := by decide
  exact this ⟨m, h⟩

theorem says_zero {l : List Nat} {bits : Nat} (h0 : 0 = val 0 l) (h : Fits l bits) : Says l bits (.returned (.tuple #[.int .u64 0, .bool true])) := by
  have := says_yes h
  rw [← h0] at this
  exact this

theorem shr_cast (V bits : Nat) : (V : Int) / 2 ^ bits = ((V / 2 ^ bits : Nat) : Int) := by simp
theorem shr_no {V bits : Nat} (hb : bits < 64) (h : V ≤ most bits) : ((V : Int) / 2 ^ bits != 0) = false := by
  rw [shr_cast, (most_shr bits V hb).mpr h]; rfl
theorem shr_yes {V bits : Nat} (hb : bits < 64) (h : ¬ V ≤ most bits) : ((V : Int) / 2 ^ bits != 0) = true := by
  have : ¬ V / 2 ^ bits = 0 := fun e => h ((most_shr bits V hb).mp e)
  rw [shr_cast]
  exact bne_iff_ne.mpr (by omega)

theorem cells_drop {w : World} {b off : Nat} {l : List Nat} (h : Cells w b off l) (k : Nat) : Cells w b (off + k) (l.drop k) := by
  intro j hj
  rw [List.length_drop] at hj
  rw [List.getElem_drop, Nat.add_assoc]
  exact h (k + j) (by omega)

set_option maxRecDepth 20000 in
set_option maxHeartbeats 1000000 in
theorem dec_any (b off cap : Nat) (l : List Nat) (bits : Nat) (w : World) (hcap : l.length ≤ cap) (hl : l.length ≤ 1048576) (h4 : 4 ≤ bits) (hc : Cells w b off l) (hby : Bytes l) :
    Calls Try.prog 7 #[.slice (some ⟨b, off, none⟩) l.length cap, .int .i64 (bits : Int)] w fun e w' => (∃ n, w' = w.drewN n) ∧ Says l bits e := by
  by_cases h0 : l.length = 0
  · have HE : Hid (¬ Fits l bits) := fun h => h.1 (List.eq_nil_of_length_eq_zero h0)
    have e0 : ((l.length : Int) == 0) = true := by simp [h0]
    clear hc hby h0
    go_enter Try.func7, Try.ntmps7
    go_wp2
    go_ret2
    exact ⟨⟨0, rfl⟩, says_no HE.out⟩
  · have e0 : ((l.length : Int) == 0) = false := beq_eq_false_iff_ne.mpr (by omega)
    have HC : Hid (Cells w b off l) := hc
    have HB : Hid (Bytes l) := hby
    clear hc hby
    go_enter Try.func7, Try.ntmps7
    go_wp2
    go_loop [6] (fun i => ∃ (k : Nat), k ≤ l.length ∧ i = .int .i64 k ∧ Hid (Digits (l.take k))) (fun i => l.length - (intOf i).toNat)
    case atStart => exact ⟨0, Nat.zero_le _, rfl, by intro c hc; simp at hc⟩
    case round =>
      obtain ⟨k, hk, rfl, HD⟩ := hrel
      by_cases hlt : k < l.length
      · have hcell := HC.out k hlt
        have hbk := HB.out _ (List.getElem_mem hlt)
        have HT : Hid (l.take (k + 1) = l.take k ++ [l[k]]) := List.take_succ_eq_append_getElem hlt
        have HM2 : Hid (l[k] ∈ l) := List.getElem_mem hlt
        obtain ⟨c, hce⟩ : ∃ c, c = l[k] := ⟨_, rfl⟩
        rw [← hce] at hcell hbk HT HM2
        clear hce
        by_cases hd : 48 ≤ c ∧ c ≤ 57
        · go_wp2
          go_round
          case rel => exact ⟨k + 1, by omega, by go_num, by show Digits _; rw [HT.out]; exact digits_snoc HD.out hd⟩
          case measure => simp [intOf]; omega
        · have hd2 : c < 48 ∨ 57 < c := by omega
          rcases hd2 with hd2 | hd2
          · go_wp2
            go_ret2
            exact ⟨⟨0, rfl⟩, says_no (fun h => hd (h.2.1 _ HM2.out))⟩
          · go_wp2
            go_ret2
            exact ⟨⟨0, rfl⟩, says_no (fun h => hd (h.2.1 _ HM2.out))⟩
      · have HA : Hid (Digits l) := by
          have e : l.take k = l := List.take_of_length_le (by omega)
          have d := HD.out
          rw [e] at d
          exact d
        clear HD
        have hkl : k = l.length := by omega
        subst hkl
        clear hlt hk
        go_wp2
        go_loop [7] (fun i => ∃ (k : Nat), k ≤ l.length ∧ i = .int .i64 k ∧ Hid (∀ i (h : i < l.length), i < k → l[i] = 48)) (fun i => l.length - (intOf i).toNat)
        case atStart => exact ⟨0, Nat.zero_le _, rfl, fun i h hi => by omega⟩
        case round =>
          obtain ⟨k, hk, rfl, HZ⟩ := hrel
          by_cases hlt : k < l.length
          · have hcell := HC.out k hlt
            have hbk := HB.out _ (List.getElem_mem hlt)
            have HCE : ∃ c, Hid (c = l[k]) := ⟨l[k], rfl⟩
            obtain ⟨c, HCE⟩ := HCE
            rw [← HCE.out] at hcell hbk
            by_cases hz : c = 48
            · have hzi : ((c : Int) == 48) = true := by simp [hz]
              have HZ2 : Hid (c = 48) := hz
              clear hz
              go_wp2
              go_round
              case rel => exact ⟨k + 1, by omega, by go_num, fun i h hi => by
                by_cases e : i = k
                · subst e; rw [← HCE.out]; exact HZ2.out
                · exact HZ.out i h (by omega)⟩
              case measure => simp [intOf]; omega
            · have hzi : ((c : Int) == 48) = false := beq_eq_false_iff_ne.mpr (by omega)
              have HZ2 : Hid (¬ c = 48) := hz
              clear hz
              have HV : Hid (val 0 l = val 0 (l.drop k)) := val_zeros l k HZ.out
              have HDr : Hid (Digits (l.drop k)) := fun c hc => HA.out c (List.mem_of_mem_drop hc)
              have HCr : Hid (Cells w b (off + k) (l.drop k)) := cells_drop HC.out k
              have hRl : (l.drop k).length = l.length - k := List.length_drop
              have HBr : Hid (Bytes (l.drop k)) := fun c hc => HB.out c (List.mem_of_mem_drop hc)
              have HG : Hid (10 ^ ((l.drop k).length - 1) ≤ val 0 (l.drop k)) := by
                have h48 := (HA.out _ (List.getElem_mem hlt)).1
                have h49 : ¬ l[k] = 48 := by rw [← HCE.out]; exact HZ2.out
                exact val_big (l.drop k) (by omega) (by rw [List.getElem_drop]; simp; omega)
              go_upto_region 11 with fail
              clear hcell hbk hzi HZ HZ2 HCE
              obtain ⟨r, HRE⟩ : ∃ r, Hid (r = l.drop k) := ⟨_, rfl⟩
              rw [← HRE.out] at HV HDr HCr hRl HBr HG
              obtain ⟨R, hRR⟩ : ∃ R, R = l.length - k := ⟨_, rfl⟩
              rw [← hRR] at hRl
              have hRp : 0 < R := by omega
              have hRc : l.length - k = R := hRR.symm
              clear hRR
              by_cases hbig : 20 < R
              · have HN : Hid (¬ Fits l bits) := fun h => by
                  have h1 := h.2.2
                  have h2 := most_le bits
                  have h3 : 10 ^ 20 ≤ 10 ^ (r.length - 1) := Nat.pow_le_pow_right (by omega) (by omega)
                  have h4 := HG.out
                  rw [HV.out] at h1
                  omega
                go_wp2
                go_ret2
                exact ⟨⟨0, rfl⟩, says_no HN.out⟩
              · go_upto_if 55 with fail
                go_cut [] (fun wx => (∃ n, wx = w.drewN n) ∧ Hid (val 0 r ≤ 18446744073709551615))
                case first =>
                  by_cases h20 : R = 20
                  · subst h20
                    go_wp2
                    go_loopw [9] (fun j wr => ∃ m : Nat, m ≤ 20 ∧ j = .int .i64 m ∧ Hid (r.take m = top.take m) ∧ ∃ n, wr = w.drewN n) (fun j _ => 20 - (intOf j).toNat)
                    case atStart => exact ⟨0, Nat.zero_le _, rfl, by show _ = _; rw [List.take_zero, List.take_zero], 0, rfl⟩
                    case round =>
                      obtain ⟨m, hm, rfl, HE, n, rfl⟩ := hrel
                      by_cases hlt3 : m < 20
                      · have hmr : m < r.length := by omega
                        have hmt : m < top.length := hlt3
                        have hcm := HCr.out m hmr
                        have hbm := HBr.out _ (List.getElem_mem hmr)
                        have HX48 : Hid (48 ≤ r[m]) := (HDr.out _ (List.getElem_mem hmr)).1
                        obtain ⟨x, HX⟩ : ∃ x, Hid (x = r[m]) := ⟨r[m], rfl⟩
                        rw [← HX.out] at hcm hbm HX48
                        have HTop : Hid ((topS[m]'(by rw [topS_size]; exact hlt3)).toNat = top[m]) := top_at m hlt3
                        unfold topS at HTop
                        rcases Nat.lt_trichotomy x (({ data := #[49, 56, 52, 52, 54, 55, 52, 52, 48, 55, 51, 55, 48, 57, 53, 53, 49, 54, 49, 53] } : ByteArray)[m]'hlt3).toNat with h3 | h3 | h3
                        · go_wp2
                          go_quiet (fail)
                          go_wp2
                          go_meet
                          case rel =>
                            refine ⟨drawn_two _ _ _, ?_⟩
                            show val 0 r ≤ _
                            rw [HTop.out] at h3
                            have := val_less r top (by rw [hRl, top_len]) HDr.out m hmr hmt HE.out (by rw [← HX.out]; exact HX48.out) (by rw [← HX.out]; exact h3)
                            rw [top_val] at this
                            omega
                        · have h5 : ¬ x < (({ data := #[49, 56, 52, 52, 54, 55, 52, 52, 48, 55, 51, 55, 48, 57, 53, 53, 49, 54, 49, 53] } : ByteArray)[m]'hlt3).toNat := by omega
                          have h6 : ¬ (({ data := #[49, 56, 52, 52, 54, 55, 52, 52, 48, 55, 51, 55, 48, 57, 53, 53, 49, 54, 49, 53] } : ByteArray)[m]'hlt3).toNat < x := by omega
                          have HX3 : Hid (r.take (m + 1) = top.take (m + 1)) := by
                            show _ = _
                            rw [List.take_succ_eq_append_getElem hmr, List.take_succ_eq_append_getElem hmt, HE.out, ← HX.out, h3, HTop.out]
                          clear h3
                          go_wp2
                          go_quiet (fail)
                          go_wp2
                          go_quiet (fail)
                          go_wp2
                          go_roundw
                          case rel => exact ⟨m + 1, by omega, by go_num, HX3, _, rfl⟩
                          case measure => simp [intOf]; omega
                        · have h5 : ¬ x < (({ data := #[49, 56, 52, 52, 54, 55, 52, 52, 48, 55, 51, 55, 48, 57, 53, 53, 49, 54, 49, 53] } : ByteArray)[m]'hlt3).toNat := by omega
                          have HN : Hid (¬ Fits l bits) := fun h => by
                            have h1 := h.2.2
                            have h2 := most_le bits
                            rw [HTop.out] at h3
                            have := val_less top r (by rw [hRl, top_len]) top_digits m hmt hmr HE.out.symm (top_digits _ (List.getElem_mem hmt)).1 (by rw [← HX.out]; exact h3)
                            rw [top_val, ← HV.out] at this
                            omega
                          go_wp2
                          go_quiet (fail)
                          go_wp2
                          go_quiet (fail)
                          go_wp2
                          go_ret2
                          exact ⟨drawn_three _ _ _ _, says_no HN.out⟩
                      · have HV3 : Hid (val 0 r ≤ 18446744073709551615) := by
                          have e := HE.out
                          rw [List.take_of_length_le (by omega), List.take_of_length_le (by rw [top_len]; omega)] at e
                          show val 0 r ≤ _
                          rw [e, top_val]
                          exact Nat.le_refl _
                        go_wp2
                        go_meet
                        case rel => exact ⟨⟨n, rfl⟩, HV3⟩
                  · have h20b : ((R : Int) == 20) = false := beq_eq_false_iff_ne.mpr (by omega)
                    have HV3 : Hid (val 0 r ≤ 18446744073709551615) := by
                      have h1 := val_lt r HDr.out
                      have h2 : 10 ^ r.length ≤ 10 ^ 19 := Nat.pow_le_pow_right (by omega) (by omega)
                      show val 0 r ≤ _
                      omega
                    go_wp2
                    go_meet
                    case rel => exact ⟨⟨0, rfl⟩, HV3⟩
                case rest =>
                  obtain ⟨⟨n, rfl⟩, HV3⟩ := hcut
                  go_wp2
                  go_loop [10, 11, 12] (fun v q j => ∃ (J V : Nat) (Q : Int), J ≤ R ∧ j = .int .i64 ((J : Int) - 1) ∧ v = .int .u64 V ∧ q = .int .u64 Q ∧ Hid (V = val 0 (r.drop J) ∧ (0 < J → Q = ((10 ^ (R - J) : Nat) : Int)))) (fun _ _ j => (intOf j + 1).toNat)
                  case atStart => exact ⟨R, 0, 1, Nat.le_refl _, rfl, rfl, rfl, by rw [List.drop_eq_nil_of_le (by omega), val_nil], fun _ => by rw [Nat.sub_self]; rfl⟩
                  case round =>
                    obtain ⟨J, V, Q, hJ, rfl, rfl, rfl, HS⟩ := hrel
                    cases J with
                    | zero =>
                      have HVV : Hid (V = val 0 l) := by
                        show V = _
                        rw [HS.out.1, List.drop_zero, HV.out]
                      by_cases hb64 : bits < 64
                      · by_cases hfit : V ≤ most bits
                        · have HF : Hid (Fits l bits) := ⟨fun h => h0 (by rw [h]; rfl), HA.out, by rw [← HVV.out]; exact hfit⟩
                          have e7 := shr_no hb64 hfit
                          clear hfit
                          go_wp2
                          go_ret2
                          exact ⟨⟨n, rfl⟩, by rw [HVV.out]; exact says_yes HF.out⟩
                        · have HF : Hid (¬ Fits l bits) := fun h => hfit (by rw [HVV.out]; exact h.2.2)
                          have e7 := shr_yes hb64 hfit
                          clear hfit
                          go_wp2
                          go_ret2
                          exact ⟨⟨n, rfl⟩, says_no HF.out⟩
                      · have HF : Hid (Fits l bits) := ⟨fun h => h0 (by rw [h]; rfl), HA.out, by rw [most_big bits (by omega), HV.out]; exact HV3.out⟩
                        go_wp2
                        go_ret2
                        exact ⟨⟨n, rfl⟩, by rw [HVV.out]; exact says_yes HF.out⟩
                    | succ J =>
                      have hJr : J < r.length := by omega
                      have hcm := HCr.out J hJr
                      have hdd := HDr.out _ (List.getElem_mem hJr)
                      have HW : Hid (val 0 (r.drop J) = (r[J] - 48) * 10 ^ (r.length - (J + 1)) + val 0 (r.drop (J + 1))) := val_drop r J hJr
                      have HP : Hid (10 ^ (r.length - (J + 1)) ≤ 10 ^ 19) := Nat.pow_le_pow_right (by omega) (by omega)
                      have HWl : Hid (val 0 (r.drop J) ≤ val 0 r) := val_drop_le r J
                      obtain ⟨x, HX⟩ : ∃ x, Hid (x = r[J]) := ⟨r[J], rfl⟩
                      rw [← HX.out] at hcm hdd HW
                      obtain ⟨q, HQ⟩ : ∃ q, Hid (q = 10 ^ (r.length - (J + 1))) := ⟨10 ^ (r.length - (J + 1)), rfl⟩
                      rw [← HQ.out] at HW HP
                      have hq := HP.out
                      obtain rfl : Q = (q : Int) := by rw [HS.out.2 (by omega), HQ.out, hRl]
                      obtain ⟨p, hp⟩ : ∃ p, p = (x - 48) * q := ⟨_, rfl⟩
                      have hpi : ((x : Int) - 48) * (q : Int) = (p : Int) := by
                        rw [hp, Int.natCast_mul]
                        congr 1
                        omega
                      have HW2 : Hid (val 0 (r.drop J) = p + V) := by
                        show _ = _
                        rw [hp, HW.out, ← HS.out.1]
                      have hsum : V + p ≤ 18446744073709551615 := by
                        have h1 := HW2.out
                        have h2 := HWl.out
                        have h3 := HV3.out
                        omega
                      clear hp
                      go_wp2
                      go_round
                      case rel => exact ⟨J, V + p, _, by omega, rfl, by go_num, rfl, by rw [HW2.out]; omega, fun hJ0 => by
                        have e : 10 ^ (R - J) = q * 10 := by rw [HQ.out, ← Nat.pow_succ, hRl]; congr 1; omega
                        have h19 : 10 ^ (R - J) ≤ 10 ^ 19 := Nat.pow_le_pow_right (by omega) (by omega)
                        rw [e] at h19 ⊢
                        rw [wrap_id _ (by omega) (by omega)]
                        omega⟩
                      case measure => simp [intOf]
          · obtain rfl : k = l.length := by omega
            have HVV : Hid (0 = val 0 l) := by
              have h1 := val_zeros l l.length HZ.out
              rw [List.drop_length, val_nil] at h1
              exact h1.symm
            have HF : Hid (Fits l bits) := ⟨fun h => h0 (by rw [h]; rfl), HA.out, by rw [← HVV.out]; exact Nat.zero_le _⟩
            clear HZ hlt hk
            by_cases hcl : cap = l.length
            · subst hcl
              go_wp2
              go_loop [10, 11, 12] (fun v q j => v = .int .u64 0 ∧ q = .int .u64 1 ∧ j = .int .i64 (-1)) (fun _ _ _ => 0)
              case atStart => exact ⟨rfl, rfl, rfl⟩
              case round =>
                obtain ⟨rfl, rfl, rfl⟩ := hrel
                go_wp2
                all_goals
                  go_ret2
                  exact ⟨⟨0, rfl⟩, says_zero HVV.out HF.out⟩
            · go_wp2
              go_loop [10, 11, 12] (fun v q j => v = .int .u64 0 ∧ q = .int .u64 1 ∧ j = .int .i64 (-1)) (fun _ _ _ => 0)
              case atStart => exact ⟨rfl, rfl, by simp⟩
              case round =>
                obtain ⟨rfl, rfl, rfl⟩ := hrel
                go_wp2
                all_goals
                  go_ret2
                  exact ⟨⟨0, rfl⟩, says_zero HVV.out HF.out⟩

/-- The empty slice that is nil. -/
theorem dec_nil (bits : Nat) (w : World) :
    Calls Try.prog 7 #[.slice none 0 0, .int .i64 (bits : Int)] w fun e w' => (∃ n, w' = w.drewN n) ∧ Says [] bits e := by
  go_enter Try.func7, Try.ntmps7
  go_wp2
  go_ret2
  exact ⟨⟨0, rfl⟩, says_no fits_not_nil⟩
end Go.Proofs.Qxb6629990a
