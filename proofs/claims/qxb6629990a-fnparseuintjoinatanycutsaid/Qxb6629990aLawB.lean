/-
  The walk of FnParseUintJoinAtAnyCut.
-/
import Derived.Test.Qxb6629990aLawA
import Derived.Deep.CutBlock
namespace Go.Proofs.Qxb6629990a
open Go.RowKit Plain

theorem digits_left {a b : List Nat} (h : Digits (a ++ b)) : Digits a := fun c hc => h c (List.mem_append_left _ hc)
theorem digits_right {a b : List Nat} (h : Digits (a ++ b)) : Digits b := fun c hc => h c (List.mem_append_right _ hc)
theorem digits_both {a b : List Nat} (ha : Digits a) (hb : Digits b) : Digits (a ++ b) := fun c hc => by
  rcases List.mem_append.mp hc with h | h
  · exact ha c h
  · exact hb c h
theorem most64 : most 64 = 18446744073709551615 := most_big 64 (Nat.le_refl _)

theorem join_no {a b : List Nat} {bits va vb v : Nat} {oka okb ok : Bool} (ha : a ≠ []) (hb : b ≠ []) (Ra : Reads a 64 va oka) (Rb : Reads b 64 vb okb) (Rw : Reads (a ++ b) bits v ok) (h : oka = false ∨ okb = false) :
    v = 0 ∧ ok = false := by
  rcases Rw with ⟨f, rfl, rfl⟩ | ⟨f, rfl, rfl⟩
  · exfalso
    obtain ⟨-, f2, f3⟩ := f
    have m1 := most_le bits
    have v1 := val_le_join a b
    have v2 := val_join a b
    have fa : Fits a 64 := ⟨ha, digits_left f2, by rw [most64]; omega⟩
    have fb : Fits b 64 := ⟨hb, digits_right f2, by rw [most64]; omega⟩
    rcases h with rfl | rfl
    · rcases Ra with ⟨-, -, c⟩ | ⟨c, -, -⟩
      · cases c
      · exact c fa
    · rcases Rb with ⟨-, -, c⟩ | ⟨c, -, -⟩
      · cases c
      · exact c fb
  · exact ⟨rfl, rfl⟩

theorem join_yes {a b : List Nat} {bits va vb v : Nat} {ok : Bool} (Ra : Reads a 64 va true) (Rb : Reads b 64 vb true) (Rw : Reads (a ++ b) bits v ok) :
    va ≤ 18446744073709551615 ∧ vb ≤ 18446744073709551615 ∧ (va * 10 ^ b.length + vb ≤ most bits → v = va * 10 ^ b.length + vb ∧ ok = true) ∧ (¬ va * 10 ^ b.length + vb ≤ most bits → v = 0 ∧ ok = false) := by
  rcases Ra with ⟨fa, rfl, -⟩ | ⟨-, -, c⟩
  · rcases Rb with ⟨fb, rfl, -⟩ | ⟨-, -, c⟩
    · have e := val_join a b
      have a3 := fa.2.2
      have b3 := fb.2.2
      rw [most64] at a3 b3
      refine ⟨a3, b3, fun h => ?_, fun h => ?_⟩
      · have fw : Fits (a ++ b) bits := ⟨fun c => fa.1 (List.append_eq_nil_iff.mp c).1, digits_both fa.2.1 fb.2.1, by rw [e]; exact h⟩
        rcases Rw with ⟨-, rfl, rfl⟩ | ⟨c, -, -⟩
        · exact ⟨e, rfl⟩
        · exact absurd fw c
      · rcases Rw with ⟨c, -, -⟩ | ⟨-, rfl, rfl⟩
        · exact absurd (by rw [← e]; exact c.2.2) h
        · exact ⟨rfl, rfl⟩
    · cases c
  · cases c

/-- The row while it is being filled: the first k bytes of l, zeros behind. -/
def part (l : List Nat) (k j : Nat) : Value := if j < k then cellB l j else .int .u8 0
theorem part_zero (l : List Nat) (j : Nat) : part l 0 j = .int .u8 0 := by simp [part]
theorem part_all {l : List Nat} {k j : Nat} (h : j < k) : part l k j = cellB l j := by simp [part, h]
theorem part_set {l : List Nat} {k : Nat} (h : k < l.length) (j : Nat) : (if j = k then Value.int .u8 (l[k] : Int) else part l k j) = part l (k + 1) j := by
  by_cases e : j = k
  · subst e
    rw [if_pos rfl, part_all (by omega), cellB_at h]
  · rw [if_neg e]
    unfold part
    by_cases h2 : j < k
    · rw [if_pos h2, if_pos (by omega)]
    · rw [if_neg h2, if_neg (by omega)]

theorem row_later {w w' : World} {g B : Nat} {t : TypeId} {n : Nat} {f : Nat → Value} (h : w.rowIs g t n f) (hb : Below B w w') (hg : g < B) : w'.rowIs g t n f := h.of_block (hb.block g hg)

set_option maxRecDepth 20000 in
set_option maxHeartbeats 1000000 in
theorem lawB_empty (a b : Option Addr) (la ca lb cb : Nat) (n : Int) (w : World) (ha : la ≤ maxLen) (hb : lb ≤ maxLen) (h0 : la = 0 ∨ lb = 0) :
    Calls Try.prog 4 #[.slice a la ca, .slice b lb cb, .int .i64 n] w fun e w' => e = .returned (.bool true) ∧ Below w.heap.size w w' := by
  go_enter Try.func4, Try.ntmps4
  go_wp2_with fail
  refine (guard8 a b la ca lb cb n ha hb w).mono ?_
  rintro e w1 ⟨rfl, r, rfl⟩
  unfold maxLen at ha hb
  cases r with
  | false =>
    go_wp2
    go_ret
    exact ⟨rfl, Below.refl _ _⟩
  | true =>
    by_cases hA : la = 0
    · subst hA
      go_wp2
      all_goals
        go_ret
        exact ⟨rfl, Below.refl _ _⟩
    · obtain rfl : lb = 0 := h0.resolve_left hA
      have e0 : ((la : Int) == 0) = false := beq_eq_false_iff_ne.mpr (by omega)
      go_wp2
      all_goals
        go_ret
        exact ⟨rfl, Below.refl _ _⟩

set_option maxRecDepth 20000 in
set_option maxHeartbeats 2000000 in
theorem lawB_some (x y : Addr) (a b : List Nat) (ca cb : Nat) (n : Int) (w : World) (ha0 : a ≠ []) (hb0 : b ≠ []) (hac : a.length ≤ ca) (hbc : b.length ≤ cb) (hcam : ca ≤ maxLen) (hcbm : cb ≤ maxLen) (hsa : Holds w x a) (hsb : Holds w y b) (hya : Bytes a) (hyb : Bytes b) :
    Calls Try.prog 4 #[.slice (some x) a.length ca, .slice (some y) b.length cb, .int .i64 n] w fun e w' => e = .returned (.bool true) ∧ Below w.heap.size w w' := by
  have ham : a.length ≤ maxLen := Nat.le_trans hac hcam
  have hbm : b.length ≤ maxLen := Nat.le_trans hbc hcbm
  have hap : 0 < a.length := List.length_pos_iff.mpr ha0
  have hbp : 0 < b.length := List.length_pos_iff.mpr hb0
  have hnilA := fun wx => run_neq_slice_nil_any (P := Try.prog) wx 22 5 (some x) a.length ca 0 0 Try.underlying22
  have hnilB := fun wx => run_neq_slice_nil_any (P := Try.prog) wx 22 5 (some y) b.length cb 0 0 Try.underlying22
  have HSA : Hid (Holds w x a) := hsa
  have HSB : Hid (Holds w y b) := hsb
  have HYA : Hid (Bytes a) := hya
  have HYB : Hid (Bytes b) := hyb
  have HA0 : Hid (a ≠ []) := ha0
  have HB0 : Hid (b ≠ []) := hb0
  clear hsa hsb hya hyb ha0 hb0
  go_enter Try.func4, Try.ntmps4
  go_wp2_with fail
  refine (guard8 (some x) (some y) a.length ca b.length cb n ham hbm w).mono ?_
  rintro e w1 ⟨rfl, r, rfl⟩
  unfold maxLen at ham hbm hcam hcbm
  cases r with
  | false =>
    go_wp2
    go_ret
    exact ⟨rfl, Below.refl _ _⟩
  | true =>
    by_cases hl1 : a.length ≤ 524288
    · by_cases hl2 : b.length ≤ 524288
      · by_cases h4 : n < 4
        · go_wp2
          go_ret
          exact ⟨rfl, Below.refl _ _⟩
        · obtain ⟨bits, rfl⟩ : ∃ bits : Nat, n = bits := ⟨n.toNat, by omega⟩
          have HB4 : Hid (4 ≤ bits) := show 4 ≤ bits by omega
          have eA : ((a.length : Int) == 0) = false := beq_eq_false_iff_ne.mpr (by omega)
          have eB : ((b.length : Int) == 0) = false := beq_eq_false_iff_ne.mpr (by omega)
          have hmkA := run_make_row' (P := Try.prog) 22 5 (.int .u8 0) 1 Try.underlying22 Try.info5 rfl .i64 .i64 a.length (by omega) (by omega)
          have hmkB := run_make_row' (P := Try.prog) 22 5 (.int .u8 0) 1 Try.underlying22 Try.info5 rfl .i64 .i64 b.length (by omega) (by omega)
          have hmkW := run_make_row' (P := Try.prog) 22 5 (.int .u8 0) 1 Try.underlying22 Try.info5 rfl .i64 .i64 (a.length + b.length) (by omega) (by omega)
          rw [Int.natCast_add] at hmkW
          obtain ⟨W2, hcpA, hrowA, hbA, -⟩ := clone_run x a ca w1 HSA.out
          obtain ⟨W4, hcpB, hrowB, hbB, -⟩ := clone_run y b cb W2 (holds_below HSB.out hbA)
          have HRA : Hid (W4.rowIs w1.heap.size 5 a.length (cellB a)) := row_later hrowA hbB hrowA.lt
          have HRB : Hid (W4.rowIs W2.heap.size 5 b.length (cellB b)) := hrowB
          have HGA : Hid (w1.heap.size < W4.heap.size) := HRA.out.lt
          have HGB : Hid (W2.heap.size < W4.heap.size) := hrowB.lt
          have HB : Hid (Below w1.heap.size w1 W4) := hbA.trans (hbB.mono hbA.size)
          obtain ⟨L, HL⟩ : ∃ L, Hid (L = a ++ b) := ⟨a ++ b, rfl⟩
          have HLl : Hid (L.length = a.length + b.length) := by show _ = _; rw [HL.out, List.length_append]
          clear hrowA hrowB hbA hbB
          go_wp2_with fail
          clear hmkA hmkB hmkW hcpA hcpB
          go_loopw [10] (fun i wr => ∃ k : Nat, k ≤ a.length ∧ i = .int .i64 k ∧ wr.rowIs W4.heap.size 5 (a.length + b.length) (part L k) ∧ Below W4.heap.size W4 wr) (fun i _ => a.length - (intOf i).toNat)
          case atStart => exact ⟨0, Nat.zero_le _, rfl, (World.rowIs_made W4 (.int .u8 0) (a.length + b.length) 5).congr (fun j _ => (part_zero L j).symm), (Below.refl _ _).alloc (Nat.le_refl _) _⟩
          case round =>
            obtain ⟨k, hk, rfl, hrow, hb⟩ := hrel
            by_cases hlt : k < a.length
            · have hkL : k < L.length := by rw [HLl.out]; omega
              have eL : L[k] = a[k] := by simp only [HL.out]; rw [List.getElem_append_left hlt]
              have hcA : wr.cell? ⟨w1.heap.size, k, none⟩ = some (.int .u8 (a[k] : Int)) := by rw [(row_later HRA.out hb HGA.out).cell hlt, cellB_at hlt]
              have hcW := hrow.cell (show k < a.length + b.length by omega)
              have hfW := hrow.frozen k
              have HN : Hid ((wr.setCell ⟨W4.heap.size, k, none⟩ (.int .u8 (a[k] : Int))).rowIs W4.heap.size 5 (a.length + b.length) (part L (k + 1))) := by
                have h1 := hrow.set k (.int .u8 (L[k] : Int))
                rw [eL] at h1
                refine h1.congr (fun j _ => ?_)
                rw [← part_set hkL, eL]
              clear hrow eL
              go_wp2
              go_roundw
              case rel => exact ⟨k + 1, by omega, by go_num, HN.out, hb.setCell (Nat.le_refl _) _⟩
              case measure => simp [intOf]; omega
            · obtain rfl : k = a.length := by omega
              clear hk hlt
              have HR0 : Hid (wr.rowIs W4.heap.size 5 (a.length + b.length) (part L a.length)) := hrow
              have HBr : Hid (Below W4.heap.size W4 wr) := hb
              clear hrow hb
              go_wp2
              go_loopw [11] (fun i wr => ∃ k : Nat, k ≤ b.length ∧ i = .int .i64 k ∧ wr.rowIs W4.heap.size 5 (a.length + b.length) (part L (a.length + k)) ∧ Below W4.heap.size W4 wr) (fun i _ => b.length - (intOf i).toNat)
              case atStart => exact ⟨0, Nat.zero_le _, rfl, HR0.out, HBr.out⟩
              case round =>
                obtain ⟨k, hk, rfl, hrow, hb⟩ := hrel
                clear HR0 HBr
                by_cases hlt : k < b.length
                · have hkL : a.length + k < L.length := by rw [HLl.out]; omega
                  have eL : L[a.length + k] = b[k] := by
                    simp only [HL.out]
                    rw [List.getElem_append_right (by omega)]
                    congr 1
                    omega
                  have hcB : wr.cell? ⟨W2.heap.size, k, none⟩ = some (.int .u8 (b[k] : Int)) := by rw [(row_later HRB.out hb HGB.out).cell hlt, cellB_at hlt]
                  have hcW := hrow.cell (show a.length + k < a.length + b.length by omega)
                  have hfW := hrow.frozen (a.length + k)
                  have HN : Hid ((wr.setCell ⟨W4.heap.size, a.length + k, none⟩ (.int .u8 (b[k] : Int))).rowIs W4.heap.size 5 (a.length + b.length) (part L (a.length + (k + 1)))) := by
                    have h1 := hrow.set (a.length + k) (.int .u8 (L[a.length + k] : Int))
                    rw [eL] at h1
                    refine h1.congr (fun j _ => ?_)
                    rw [← Nat.add_assoc, ← part_set hkL, eL]
                  clear hrow eL
                  go_wp2
                  go_roundw
                  case rel => exact ⟨k + 1, by omega, by go_num, HN.out, hb.setCell (Nat.le_refl _) _⟩
                  case measure => simp [intOf]; omega
                · obtain rfl : k = b.length := by omega
                  clear hk hlt
                  have HCA : Hid (Cells wr w1.heap.size 0 a) := row_cells (row_later HRA.out hb HGA.out)
                  have HCB : Hid (Cells wr W2.heap.size 0 b) := row_cells (row_later HRB.out hb HGB.out)
                  have HCL : Hid (Cells wr W4.heap.size 0 L) := by
                    refine row_cells ?_
                    rw [HLl.out]
                    exact hrow.congr (fun j hj => part_all hj)
                  have HYL : Hid (Bytes L) := fun c hc => by
                    rw [HL.out] at hc
                    rcases List.mem_append.mp hc with h | h
                    · exact HYA.out c h
                    · exact HYB.out c h
                  have HBw : Hid (Below w1.heap.size w1 wr) := HB.out.trans (hb.mono (Nat.le_of_lt HGA.out))
                  have cW := parse_any W4.heap.size 0 (a.length + b.length) L bits wr (by rw [HLl.out]; omega) HB4.out HCL.out HYL.out
                  rw [HLl.out] at cW
                  have CW : Hid (Calls Try.prog 6 #[.slice (some ⟨W4.heap.size, 0, none⟩) (a.length + b.length) (a.length + b.length), .int .i64 (bits : Int)] wr fun e w' => w' = wr ∧ Says L bits e) := cW
                  clear hrow hb cW
                  go_wp2_with fail
                  refine CW.out.mono ?_
                  rintro e w5 ⟨rfl, v, ok, rfl, HRW⟩
                  go_wp2_with fail
                  refine (parse_any w1.heap.size 0 a.length a 64 _ (by omega) (by omega) HCA.out HYA.out).mono ?_
                  rintro e w6 ⟨rfl, va, oka, rfl, HRa⟩
                  go_wp2_with fail
                  refine (parse_any W2.heap.size 0 b.length b 64 _ (by omega) (by omega) HCB.out HYB.out).mono ?_
                  rintro e w7 ⟨rfl, vb, okb, rfl, HRb⟩
                  go_wp2_with fail
                  refine (dec_any W2.heap.size 0 b.length b 64 _ (Nat.le_refl _) (by omega) (by omega) HCB.out HYB.out).mono ?_
                  rintro e w8 ⟨⟨q, rfl⟩, vb', okb', rfl, HRb'⟩
                  obtain ⟨rfl, rfl⟩ := HRb.one HRb'
                  clear HRb'
                  rw [HL.out] at HRW
                  cases oka with
                  | false =>
                    obtain ⟨rfl, rfl⟩ := join_no HA0.out HB0.out HRa HRb HRW (.inl rfl)
                    clear HRW HRa HRb
                    cases okb
                    all_goals
                      go_wp2
                      go_ret
                      exact ⟨rfl, below_drewN HBw.out _⟩
                  | true =>
                    cases okb with
                    | false =>
                      obtain ⟨rfl, rfl⟩ := join_no HA0.out HB0.out HRa HRb HRW (.inr rfl)
                      clear HRW HRa HRb
                      go_wp2
                      go_ret
                      exact ⟨rfl, below_drewN HBw.out _⟩
                    | true =>
                      obtain ⟨hva, hvb, hyes, hno⟩ := join_yes HRa HRb HRW
                      obtain ⟨X0, HX0⟩ : ∃ X0, Hid (X0 = va * 10 ^ b.length) := ⟨va * 10 ^ b.length, rfl⟩
                      have HYES : Hid (X0 + vb ≤ most bits → v = X0 + vb ∧ ok = true) := by rw [HX0.out]; exact hyes
                      have HNO : Hid (¬ X0 + vb ≤ most bits → v = 0 ∧ ok = false) := by rw [HX0.out]; exact hno
                      clear HRW HRa HRb hyes hno
                      go_upto_block 4 with fail
                      go_cut [20, 21, 22] (fun x ov _ wx => wx = w7.drewN q ∧ ∃ (X : Nat) (o : Bool), x = .int .u64 X ∧ ov = .bool o ∧ X ≤ 18446744073709551615 ∧ Hid ((o = false → X = X0) ∧ (o = true → 18446744073709551615 < X0)))
                      case first =>
                        go_wp2_with fail
                        go_loop [20, 21, 22] (fun x ov k => ∃ K X : Nat, K ≤ b.length ∧ k = .int .i64 K ∧ x = .int .u64 X ∧ ov = .bool false ∧ X ≤ 18446744073709551615 ∧ Hid (X = va * 10 ^ K)) (fun _ _ k => b.length - (intOf k).toNat)
                        case atStart => exact ⟨0, va, Nat.zero_le _, rfl, rfl, rfl, hva, by show _ = _; rw [Nat.pow_zero, Nat.mul_one]⟩
                        case round =>
                          obtain ⟨K, X, hK, rfl, rfl, rfl, hX, HX⟩ := hrel
                          by_cases hlt : K < b.length
                          · by_cases hz : X = 0
                            · subst hz
                              have HE : Hid (0 = X0) := by
                                have h1 := HX.out
                                have h2 : va = 0 := (Nat.mul_eq_zero.mp h1.symm).resolve_right (Nat.pos_iff_ne_zero.mp (Nat.pow_pos (by omega)))
                                show _ = _
                                rw [HX0.out, h2, Nat.zero_mul]
                              go_wp2
                              go_meet
                              case rel => exact ⟨rfl, 0, false, rfl, rfl, Nat.zero_le _, fun _ => HE.out, fun h => by cases h⟩
                            · have hzi : ((X : Int) != 0) = true := bne_iff_ne.mpr (by omega)
                              have hX10 : Hid (X * 10 ≤ X0) := by
                                have h1 := HX.out
                                have h2 : 10 ^ (K + 1) ≤ 10 ^ b.length := Nat.pow_le_pow_right (by omega) (by omega)
                                have h3 := Nat.mul_le_mul_left va h2
                                rw [Nat.pow_succ, ← Nat.mul_assoc, ← h1, ← HX0.out] at h3
                                exact h3
                              have HP : Hid (X * 10 = va * 10 ^ (K + 1)) := by
                                show _ = _
                                rw [Nat.pow_succ, ← Nat.mul_assoc, ← HX.out]
                              clear hz
                              by_cases ho : X ≤ 1844674407370955161
                              · go_wp2
                                go_round
                                case rel => exact ⟨K + 1, X * 10, by omega, by go_num, by go_num, rfl, by omega, HP⟩
                                case measure => simp [intOf]; omega
                              · have HO : Hid (18446744073709551615 < X0) := by
                                  have h1 := hX10.out
                                  show _ < _
                                  omega
                                go_wp2
                                go_meet
                                case rel => exact ⟨rfl, X, true, rfl, rfl, hX, (fun h => by cases h), fun _ => HO.out⟩
                          · obtain rfl : K = b.length := by omega
                            have HE : Hid (X = X0) := HX.out.trans HX0.out.symm
                            go_wp2
                            go_meet
                            case rel => exact ⟨rfl, X, false, rfl, rfl, hX, fun _ => HE.out, fun h => by cases h⟩
                      case rest =>
                        obtain ⟨rfl, X, o, rfl, rfl, hX, HXO⟩ := hcut
                        have m1 := most_le bits
                        cases o with
                        | true =>
                          have h1 := HXO.out.2 rfl
                          obtain ⟨rfl, rfl⟩ := HNO.out (by omega)
                          clear HNO HYES HXO h1 m1
                          go_wp2
                          go_ret
                          exact ⟨rfl, below_drewN HBw.out _⟩
                        | false =>
                          obtain rfl : X = X0 := HXO.out.1 rfl
                          by_cases hov : 18446744073709551615 < X + vb
                          · obtain ⟨rfl, rfl⟩ := HNO.out (by omega)
                            clear HNO HYES HXO HX0 m1
                            go_wp2
                            go_ret
                            exact ⟨rfl, below_drewN HBw.out _⟩
                          · by_cases hfit : X + vb ≤ most bits
                            · obtain ⟨rfl, rfl⟩ := HYES.out hfit
                              by_cases hb64 : bits < 64
                              · have e7 := shr_no hb64 hfit
                                rw [Int.natCast_add] at e7
                                clear HNO HYES HXO HX0 m1 hfit
                                go_wp2
                                go_ret
                                exact ⟨rfl, below_drewN HBw.out _⟩
                              · clear HNO HYES HXO HX0 m1 hfit
                                go_wp2
                                go_ret
                                exact ⟨rfl, below_drewN HBw.out _⟩
                            · obtain ⟨rfl, rfl⟩ := HNO.out hfit
                              have hb64 : bits < 64 := by
                                apply Nat.lt_of_not_le
                                intro h
                                rw [most_big bits h] at hfit
                                omega
                              have e7 := shr_yes hb64 hfit
                              rw [Int.natCast_add] at e7
                              clear HNO HYES HXO HX0 m1 hfit
                              go_wp2
                              go_ret
                              exact ⟨rfl, below_drewN HBw.out _⟩
      · go_wp2
        go_ret
        exact ⟨rfl, Below.refl _ _⟩
    · go_wp2
      go_ret
      exact ⟨rfl, Below.refl _ _⟩
end Go.Proofs.Qxb6629990a
