/-
  The walks of zzHasPrefix, zzInSpan, zzBoundLE, the guards and PrefixSpan.
-/
import Derived.Test.Qxb6628966aCmp
namespace Go.Proofs.Qxb6628966a
open Go.RowKit Plain

set_option maxHeartbeats 1000000 in
theorem pre_any (s p : ByteArray) (hs : s.size ≤ 65537) (w : World) :
    Calls Try.prog 8 #[.string s, .string p] w fun e w' => e = .returned (.bool (hasPre (bs s) (bs p))) ∧ ∃ n, w' = w.drewN n := by
  by_cases hsp : s.size < p.size
  · have e : hasPre (bs s) (bs p) = false := pre_short (by simpa using hsp)
    have HE : Hid (hasPre (bs s) (bs p) = false) := e
    clear e
    go_enter Try.func8, Try.ntmps8
    go_wp2
    go_ret
    exact ⟨ret_bool HE.out.symm, 0, rfl⟩
  · go_enter Try.func8, Try.ntmps8
    go_wp2
    go_loopw [5] (fun i wr => ∃ k : Nat, k ≤ p.size ∧ i = .int .i64 k ∧ Hid (hasPre (bs s) (bs p) = hasPre ((bs s).drop k) ((bs p).drop k)) ∧ ∃ n, wr = w.drewN n) (fun i _ => p.size - (intOf i).toNat)
    case atStart => exact ⟨0, Nat.zero_le _, rfl, rfl, 0, rfl⟩
    case round =>
      obtain ⟨k, hk1, rfl, hc, n, rfl⟩ := hrel
      by_cases hlt : k < p.size
      · have hks : k < s.size := by omega
        have hc2 : Hid (hasPre (bs s) (bs p) = hasPre (s[k] :: (bs s).drop (k + 1)) (p[k] :: (bs p).drop (k + 1))) := by rw [← drop_byte s k hks, ← drop_byte p k hlt]; exact hc
        have h1 := (s[k]).toNat_lt
        have h2 := (p[k]).toNat_lt
        clear hc
        by_cases h : s[k].toNat = p[k].toNat
        · have hi : ((s[k].toNat : Int) != (p[k].toNat : Int)) = false := by simp [h]
          have HH : Hid (s[k].toNat = p[k].toNat) := h
          clear h
          go_wp2
          go_quiet (fail)
          go_wp2
          go_roundw
          case rel => exact ⟨k + 1, by omega, by go_num, by show _ = _; rw [hc2.out, pre_eq HH.out], _, rfl⟩
          case measure => simp [intOf]; omega
        · have hi : ((s[k].toNat : Int) != (p[k].toNat : Int)) = true := by simp; omega
          have HH : Hid (¬ s[k].toNat = p[k].toNat) := h
          clear h
          go_wp2
          go_quiet (fail)
          go_wp2
          go_ret
          exact ⟨ret_bool (by rw [hc2.out, pre_ne HH.out]), drawn_two _ _ _⟩
      · have e : hasPre (bs s) (bs p) = true := by rw [hc.out, drop_end p k (by omega)]; exact pre_nil _
        have HE : Hid (hasPre (bs s) (bs p) = true) := e
        clear e hc
        go_wp2
        go_ret
        exact ⟨ret_bool HE.out.symm, _, rfl⟩

theorem empty_list {t : ByteArray} (h : bs t = []) : t.toList.isEmpty = true := by rw [ByteArray.toList_eq]; exact congrArg List.isEmpty h
theorem filled_list {t : ByteArray} (h : bs t ≠ []) : t.toList.isEmpty = false := by
  rw [ByteArray.toList_eq]
  cases hx : t.data.toList with
  | nil => exact absurd hx h
  | cons a l => rfl

set_option maxHeartbeats 400000 in
theorem inSpan_any (f t s : ByteArray) (hf : f.size ≤ 65537) (ht : t.size ≤ 65537) (hs : s.size ≤ 65537) (w : World) :
    Calls Try.prog 7 #[.string f, .string t, .string s] w fun e w' => e = .returned (.bool (inSpan (bs f) (bs t) (bs s))) ∧ ∃ n, w' = w.drewN n := by
  by_cases h1 : 0 < cmp (bs f) (bs s)
  · have HE : Hid (inSpan (bs f) (bs t) (bs s) = false) := by show _ = _; unfold inSpan; rw [if_pos h1]
    go_enter Try.func7, Try.ntmps7
    go_wp2_with fail
    refine (cmp_any f s hf hs _).mono ?_
    rintro e w1 ⟨rfl, n, rfl⟩
    go_wp2
    go_ret
    exact ⟨ret_bool HE.out.symm, _, rfl⟩
  · by_cases h2 : bs t = []
    · have HE : Hid (inSpan (bs f) (bs t) (bs s) = true) := by show _ = _; unfold inSpan; rw [if_neg h1, if_pos h2]
      have he := empty_list h2
      clear h2
      go_enter Try.func7, Try.ntmps7
      go_wp2_with fail
      refine (cmp_any f s hf hs _).mono ?_
      rintro e w1 ⟨rfl, n, rfl⟩
      go_wp2_with fail
      go_ret
      exact ⟨ret_bool HE.out.symm, _, rfl⟩
    · have HE : Hid (inSpan (bs f) (bs t) (bs s) = decide (cmp (bs s) (bs t) < 0)) := by show _ = _; unfold inSpan; rw [if_neg h1, if_neg h2]
      have he := filled_list h2
      clear h2
      go_enter Try.func7, Try.ntmps7
      go_wp2_with fail
      refine (cmp_any f s hf hs _).mono ?_
      rintro e w1 ⟨rfl, n, rfl⟩
      go_wp2_with fail
      refine (cmp_any s t hs ht _).mono ?_
      rintro e w1 ⟨rfl, n2, rfl⟩
      go_wp2
      go_ret
      exact ⟨ret_bool HE.out.symm, _, rfl⟩

set_option maxHeartbeats 400000 in
theorem bound_any (x y : ByteArray) (hx : x.size ≤ 65537) (hy : y.size ≤ 65537) (w : World) :
    Calls Try.prog 11 #[.string x, .string y] w fun e w' => e = .returned (.bool (boundLE (bs x) (bs y))) ∧ ∃ n, w' = w.drewN n := by
  by_cases h1 : bs y = []
  · have HE : Hid (boundLE (bs x) (bs y) = true) := by show _ = _; unfold boundLE; rw [if_pos h1]
    have he := empty_list h1
    clear h1
    go_enter Try.func11, Try.ntmps11
    go_wp2
    go_ret
    exact ⟨ret_bool HE.out.symm, 0, rfl⟩
  · by_cases h2 : bs x = []
    · have HE : Hid (boundLE (bs x) (bs y) = false) := by show _ = _; unfold boundLE; rw [if_neg h1, if_pos h2]
      have he := filled_list h1
      have hf := empty_list h2
      clear h1 h2
      go_enter Try.func11, Try.ntmps11
      go_wp2
      go_ret
      exact ⟨ret_bool HE.out.symm, 0, rfl⟩
    · have HE : Hid (boundLE (bs x) (bs y) = decide (cmp (bs x) (bs y) ≤ 0)) := by show _ = _; unfold boundLE; rw [if_neg h1, if_neg h2]
      have he := filled_list h1
      have hf := filled_list h2
      clear h1 h2
      go_enter Try.func11, Try.ntmps11
      go_wp2_with fail
      refine (cmp_any x y hx hy _).mono ?_
      rintro e w1 ⟨rfl, n, rfl⟩
      go_wp2
      go_ret
      exact ⟨ret_bool HE.out.symm, _, rfl⟩

/-- The guards answer some bool. -/
def Says (e : Ending) : Prop := ∃ r, e = .returned (.bool r)
theorem guard5 (a b : ByteArray) (ha : a.size ≤ maxLen) (hb : b.size ≤ maxLen) (w : World) : Calls Try.prog 5 #[.string a, .string b] w fun e w' => w' = w ∧ Says e := by
  unfold maxLen at ha hb
  go_enter Try.func5, Try.ntmps5
  go_wp2
  all_goals
    go_ret
    first | exact ⟨rfl, true, rfl⟩ | exact ⟨rfl, false, rfl⟩
theorem guard9 (a b : ByteArray) (ha : a.size ≤ maxLen) (hb : b.size ≤ maxLen) (w : World) : Calls Try.prog 9 #[.string a, .string b] w fun e w' => w' = w ∧ Says e := by
  unfold maxLen at ha hb
  go_enter Try.func9, Try.ntmps9
  go_wp2
  all_goals
    go_ret
    first | exact ⟨rfl, true, rfl⟩ | exact ⟨rfl, false, rfl⟩

/-- The end of the span, as a string. -/
def toS (p : ByteArray) : ByteArray := ⟨(endOf (bs p)).toArray⟩

/-- '[]byte(p)': a new row that holds p's bytes; nothing else has turned. -/
theorem bytes_run (p : ByteArray) (w : World) : ∃ cap W1, (convert 9 28 (.string p)).run Try.prog w = .ok (.slice (some ⟨w.heap.size, 0, none⟩) p.size cap) W1 ∧ p.size ≤ cap ∧ Below w.heap.size w W1 ∧ w.heap.size < W1.heap.size ∧
    ∀ j (h : j < p.size), W1.cell? ⟨w.heap.size, j, none⟩ = some (.int .u8 (p[j].toNat : Int)) ∧ W1.frozen? ⟨w.heap.size, j, none⟩ = false := by
  have h := run_bytes_of_string (P := Try.prog) w 9 28 5 p Try.underlying9 Try.underlying28 Try.underlying5
  have hc := grownCap_ge w p.size 0 5
  generalize grownCap w p.size 0 5 = cap at h hc
  have hsz : (bytesRow p cap).size = cap := by
    have e : p.data.size = p.size := rfl
    simp [bytesRow]; omega
  refine ⟨cap, _, h, hc, ((Below.refl _ w).drew).alloc (Nat.le_refl _) _, by simp, fun j hj => ?_⟩
  have hget : (bytesRow p cap)[j]? = some (.int .u8 (p[j].toNat : Int)) := by
    unfold bytesRow
    rw [Array.getElem?_append_left (by simpa using hj)]
    have hj' : j < p.data.size := hj
    simp
    exact ⟨p.data[j], Array.getElem?_eq_getElem hj', rfl⟩
  have hh : (w.drew.alloc (.cells (bytesRow p cap) 5 ((bytesRow p cap).size, (bytesRow p cap).size + 1))).heap[w.heap.size]? = some (.cells (bytesRow p cap) 5 ((bytesRow p cap).size, (bytesRow p cap).size + 1)) := by
    show (w.heap.push _)[w.heap.size]? = _
    simp
  refine ⟨?_, ?_⟩
  · unfold World.cell?
    simp only [hh]
    simpa using hget
  · unfold World.frozen?
    simp only [hh]
    simp [hsz]
    omega

/-- The bytes up to k, the last one raised, read back as a string. -/
theorem back_run (p : ByteArray) (k : Nat) (hk : k < p.size) (hb : p[k].toNat < 255) (hl : ∀ j (h : j < p.size), k < j → p[j].toNat = 255) (B cap : Nat) (W : World)
    (hc : ∀ j (h : j < p.size), j ≠ k → W.cell? ⟨B, j, none⟩ = some (.int .u8 (p[j].toNat : Int))) (hck : W.cell? ⟨B, k, none⟩ = some (.int .u8 ((p[k].toNat : Int) + 1))) :
    (convert 28 9 (.slice (some ⟨B, 0, none⟩) (k + 1) cap)).run Try.prog W = .ok (.string (toS p)) W := by
  have hk' : k < (bs p).length := by simpa using hk
  have e : endOf (bs p) = (bs p).take k ++ [(bs p)[k] + 1] := endOf_at (bs p) k hk' hb (fun j hj hkj => hl j (by simpa using hj) hkj)
  have hlen : ((bs p).take k ++ [(bs p)[k] + 1]).length = k + 1 := by
    rw [List.length_append, List.length_take]; simp; omega
  have := run_convert_bytes_back (P := Try.prog) W 28 9 5 ⟨B, 0, none⟩ cap ((bs p).take k ++ [(bs p)[k] + 1]) Try.underlying28 Try.underlying5 Try.underlying9 (fun j hj => by
    rw [hlen] at hj
    rw [Addr.add_lit, Nat.zero_add]
    by_cases ej : j = k
    · subst ej
      rw [hck, List.getElem_append_right (by simp; omega)]
      have e0 : j - ((bs p).take j).length = 0 := by simp; omega
      simp only [e0, List.getElem_cons_zero]
      rw [succ_toNat (show ((bs p)[j]).toNat < 255 from hb)]
      rfl
    · rw [hc j (by omega) ej, List.getElem_append_left (by simp; omega), List.getElem_take]
      rfl)
  rw [hlen] at this
  unfold toS
  rw [e]
  exact this

set_option maxRecDepth 20000 in
set_option maxHeartbeats 1000000 in
theorem span_any (p : ByteArray) (hp : p.size ≤ 65536) (w : World) :
    Calls Try.prog 6 #[.string p] w fun e w' => e = .returned (.agg #[.string p, .string (toS p)]) ∧ Below w.heap.size w w' := by
  obtain ⟨cap, W1, hcv, hcap, hb, hsz, hcell⟩ := bytes_run p (w.alloc (.cells #[.string ⟨#[]⟩, .string ⟨#[]⟩] 24))
  have r0 : W1.cell? ⟨w.heap.size, 0, none⟩ = some (.string ⟨#[]⟩) := (hb.cell (p := ⟨w.heap.size, 0, none⟩) (by simp)).trans (by simp)
  have r1 : W1.cell? ⟨w.heap.size, 1, none⟩ = some (.string ⟨#[]⟩) := (hb.cell (p := ⟨w.heap.size, 1, none⟩) (by simp)).trans (by simp)
  have f0 : W1.frozen? ⟨w.heap.size, 0, none⟩ = false := (hb.frozen (p := ⟨w.heap.size, 0, none⟩) (by simp)).trans (by simp)
  have f1 : W1.frozen? ⟨w.heap.size, 1, none⟩ = false := (hb.frozen (p := ⟨w.heap.size, 1, none⟩) (by simp)).trans (by simp)
  have hbw : Below w.heap.size w W1 := ((Below.refl _ w).alloc (Nat.le_refl _) _).trans (hb.mono (by simp))
  simp only [World.size_alloc] at hcv hcell hsz
  clear hb
  go_enter Try.func6, Try.ntmps6
  go_wp2
  go_loop [4] (fun i => ∃ k : Nat, k ≤ p.size ∧ i = .int .i64 ((k : Int) - 1) ∧ Hid (∀ j (h : j < p.size), k ≤ j → p[j].toNat = 255)) (fun i => (intOf i + 1).toNat)
  case atStart => exact ⟨p.size, Nat.le_refl _, rfl, fun j h hj => by omega⟩
  case round =>
    obtain ⟨k, hk, rfl, hall⟩ := hrel
    cases k with
    | zero =>
      have he : toS p = ⟨#[]⟩ := by
        unfold toS
        rw [endOf_none (bs p) (fun j hj => hall.out j (by simpa using hj) (Nat.zero_le _))]
      have HE : Hid (toS p = ⟨#[]⟩) := he
      clear he hcell hcv
      go_wp2
      refine bodyPost_ret (v := .agg #[.string p, .string ⟨#[]⟩]) (by simp [results, Try.results6, go_sem, r0, r1]) rfl ⟨by rw [HE.out], (hbw.setCell (Nat.le_refl _) _).setCell (Nat.le_refl _) _⟩
    | succ k =>
      have hc0 := (hcell k (by omega)).1
      have g0 := (hcell k (by omega)).2
      have hby := (p[k]'(by omega)).toNat_lt
      obtain ⟨c, hcb⟩ : ∃ c, c = (p[k]'(by omega)).toNat := ⟨_, rfl⟩
      rw [← hcb] at hc0 hby
      have HC : Hid (c = (p[k]'(by omega)).toNat) := hcb
      clear hcb
      by_cases hlow : c < 255
      · have hbk : (convert 28 9 (.slice (some ⟨w.heap.size + 1, 0, none⟩) (k + 1) cap)).run Try.prog (W1.setCell ⟨w.heap.size + 1, k, none⟩ (.int .u8 ((c : Int) + 1))) = .ok (.string (toS p)) (W1.setCell ⟨w.heap.size + 1, k, none⟩ (.int .u8 ((c : Int) + 1))) := by
          have hcc := HC.out
          refine back_run p k (by omega) (by omega) (fun j h hkj => hall.out j h (by omega)) _ cap _ (fun j h hne => ?_) ?_
          · rw [World.cell?_setCell_other _ _ _ _ (fun e => hne (by cases e; rfl))]
            exact (hcell j h).1
          · rw [World.cell?_setCell_same _ _ _ hc0]
            congr 2
            omega
        clear hcell hcv
        have hkc : (k : Int) + 1 ≤ (cap : Int) := by omega
        go_wp2
        refine bodyPost_ret (v := .agg #[.string p, .string (toS p)]) (by simp [results, Try.results6, go_sem, r0, r1]) rfl ⟨rfl, ?_⟩
        exact ((hbw.setCell (Nat.le_succ _) _).setCell (Nat.le_refl _) _).setCell (Nat.le_refl _) _
      · have HL : Hid (¬ c < 255) := hlow
        have hI : (255 : Int) ≤ (c : Int) := by omega
        clear hlow hcell hcv
        go_wp2
        go_round
        case rel => exact ⟨k, by omega, rfl, fun j h hj => by
          by_cases e : j = k
          · subst e
            have h1 := HC.out
            have h2 := HL.out
            omega
          · exact hall.out j h (by omega)⟩
        case measure => simp [intOf]
end Go.Proofs.Qxb6628966a
