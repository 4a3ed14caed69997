/-
  The walk of zzInsertionSorted; its plain law: it sorts.
-/
import Derived.Test.Qxb6628937aFmtSort
namespace Go.Proofs.Qxb6628937aFmt
open Go.RowKit

/-! ### The plain side -/
theorem bytesLess_is : ∀ (x y : List UInt8), Op.bytesLess x y = decide (x < y)
  | [], [] => by simp [Op.bytesLess]
  | _ :: _, [] => by simp [Op.bytesLess]
  | [], _ :: _ => by simp [Op.bytesLess]
  | a :: x, b :: y => by
    rw [Op.bytesLess, bytesLess_is x y]
    simp only [List.cons_lt_cons_iff]
    by_cases h1 : a < b <;> by_cases h2 : a = b <;> by_cases h3 : x < y <;> simp [h1, h2, h3]

theorem insert_rises {L : List (List UInt8)} {x : List UInt8} {j : Nat} (hL : L.Pairwise (· ≤ ·)) (hlo : ∀ y ∈ L.take j, y ≤ x) (hhi : ∀ y ∈ L.drop j, x ≤ y) : (L.take j ++ x :: L.drop j).Pairwise (· ≤ ·) := by
  have h : (L.take j ++ L.drop j).Pairwise (· ≤ ·) := by rw [List.take_append_drop]; exact hL
  rw [List.pairwise_append] at h ⊢
  refine ⟨h.1, List.pairwise_cons.2 ⟨hhi, h.2.1⟩, fun a ha b hb => ?_⟩
  rcases List.mem_cons.1 hb with rfl | hb
  · exact hlo a ha
  · exact h.2.2 a ha b hb

theorem insert_perm (L : List (List UInt8)) (x : List UInt8) (j : Nat) : (L.take j ++ x :: L.drop j).Perm (L ++ [x]) := by
  have h1 : (L.take j ++ x :: L.drop j).Perm (x :: (L.take j ++ L.drop j)) := List.perm_middle
  rw [List.take_append_drop] at h1
  exact h1.trans (List.perm_append_singleton x L).symm

/-- What stands ahead of j is no greater than x, if the last of it is not. -/
theorem take_low {L : List (List UInt8)} {x : List UInt8} {j : Nat} (hL : L.Pairwise (· ≤ ·)) (hj : j < L.length) (h : ¬ x < L[j]) : ∀ y ∈ L.take (j + 1), y ≤ x := by
  intro y hy
  obtain ⟨i, hi, rfl⟩ := List.getElem_of_mem hy
  rw [List.getElem_take]
  have hx : L[j] ≤ x := List.not_lt.1 h
  have hi' : i < j + 1 := by simp at hi; omega
  by_cases e : i = j
  · subst e; exact hx
  · exact List.le_trans (List.pairwise_iff_getElem.1 hL i j (by omega) hj (by omega)) hx

theorem srt_of {L S : List (List UInt8)} (hL : L.Pairwise (· ≤ ·)) (hp : L.Perm S) : L = srt S := by
  have tr : ∀ a b c : List UInt8, (decide (a ≤ b)) = true → (decide (b ≤ c)) = true → (decide (a ≤ c)) = true := fun a b c h1 h2 => by simp only [decide_eq_true_eq] at *; exact List.le_trans h1 h2
  have to : ∀ a b : List UInt8, (decide (a ≤ b) || decide (b ≤ a)) = true := fun a b => by simp only [Bool.or_eq_true, decide_eq_true_eq]; exact List.le_total a b
  refine List.Perm.eq_of_pairwise (le := fun a b => decide (a ≤ b) = true) (fun a b _ _ h1 h2 => ?_) (by simpa using hL) (List.pairwise_mergeSort tr to S) (hp.trans (List.mergeSort_perm S _).symm)
  simp only [decide_eq_true_eq] at h1 h2
  exact List.le_antisymm h1 h2

/-- A store into a row of strings. -/
theorem cellS_set {A : List (List UInt8)} {j : Nat} {z : List UInt8} (hj : j < A.length) : ∀ k, k < A.length → (if k = j then sv z else cellS A k) = cellS (A.set j z) k := by
  intro k hk
  by_cases e : k = j
  · subst e
    rw [if_pos rfl, cellS_at (by simpa using hk)]
    simp
  · rw [if_neg e, cellS_at hk, cellS_at (by simpa using hk)]
    simp [Ne.symm e]

/-- The row in the midst of an insertion: L up to j, something at j, the rest of L behind it, then R. -/
def mid (L R : List (List UInt8)) (j : Nat) (y : List UInt8) : List (List UInt8) := L.take j ++ y :: (L.drop j ++ R)
theorem mid_length {L R : List (List UInt8)} {j : Nat} {y : List UInt8} (hj : j ≤ L.length) : (mid L R j y).length = L.length + 1 + R.length := by
  simp [mid]; omega
theorem mid_set {L R : List (List UInt8)} {j : Nat} {y z : List UInt8} (hj : j ≤ L.length) : (mid L R j y).set j z = mid L R j z := by
  unfold mid
  rw [List.set_append_right _ _ (by simp; omega)]
  have e : j - (L.take j).length = 0 := by simp; omega
  rw [e, List.set_cons_zero]
theorem mid_before {L R : List (List UInt8)} {j : Nat} {y : List UInt8} (hj : j + 1 ≤ L.length) : cellS (mid L R (j + 1) y) j = sv L[j] := by
  unfold cellS mid
  rw [List.getD_eq_getElem?_getD, List.getElem?_append_left (by simp; omega), List.getElem?_take_of_lt (by omega), List.getElem?_eq_getElem (by omega)]
  rfl
theorem mid_down {L R : List (List UInt8)} {j : Nat} (hj : j + 1 ≤ L.length) : mid L R (j + 1) L[j] = mid L R j L[j] := by
  have e1 : L.take (j + 1) = L.take j ++ [L[j]] := List.take_succ_eq_append_getElem (by omega)
  have e2 : L.drop j = L[j] :: L.drop (j + 1) := List.drop_eq_getElem_cons (by omega)
  unfold mid
  rw [e1, e2, List.append_assoc]
  rfl
theorem mid_done (L R : List (List UInt8)) (j : Nat) (x : List UInt8) : mid L R j x = (L.take j ++ x :: L.drop j) ++ R := by simp [mid]

theorem mid_store {w : World} {g n : Nat} {L R : List (List UInt8)} {j : Nat} {y z : List UInt8} (hn : L.length + 1 + R.length = n) (hj : j ≤ L.length) (h : w.rowIs g 9 n (cellS (mid L R j y))) : (w.setCell ⟨g, j, none⟩ (sv z)).rowIs g 9 n (cellS (mid L R j z)) := by
  have hl : (mid L R j y).length = n := by rw [mid_length hj]; exact hn
  refine (h.set j (sv z)).congr fun k hk => ?_
  rw [← mid_set (y := y) (z := z) hj]
  exact cellS_set (A := mid L R j y) (j := j) (z := z) (by omega) k (by omega)

/-- One step down. -/
theorem ins_shift {w : World} {g n : Nat} {L R : List (List UInt8)} {j : Nat} {y : List UInt8} (hn : L.length + 1 + R.length = n) (hj : j + 1 ≤ L.length) (h : w.rowIs g 9 n (cellS (mid L R (j + 1) y))) : (w.setCell ⟨g, j + 1, none⟩ (sv L[j])).rowIs g 9 n (cellS (mid L R j L[j])) := by
  rw [← mid_down hj]
  exact mid_store hn hj h

/-- x is laid at j. -/
theorem ins_fin {w : World} {g k j : Nat} {S L : List (List UInt8)} {x y : List UInt8} (hk : k < S.length) (hLk : L.length = k) (hLs : L.Pairwise (· ≤ ·)) (hLp : L.Perm (S.take k)) (hx : x = S[k]) (hj : j ≤ k)
    (h : w.rowIs g 9 S.length (cellS (mid L (S.drop (k + 1)) j y))) (hlo : ∀ z ∈ L.take j, z ≤ x) (hhi : ∀ z ∈ L.drop j, x ≤ z) :
    (L.take j ++ x :: L.drop j).length = k + 1 ∧ (L.take j ++ x :: L.drop j).Pairwise (· ≤ ·) ∧ (L.take j ++ x :: L.drop j).Perm (S.take (k + 1)) ∧ (w.setCell ⟨g, j, none⟩ (sv x)).rowIs g 9 S.length (cellS ((L.take j ++ x :: L.drop j) ++ S.drop (k + 1))) := by
  refine ⟨by simp; omega, insert_rises hLs hlo hhi, ?_, ?_⟩
  · rw [List.take_succ_eq_append_getElem hk, ← hx]
    exact (insert_perm L x j).trans (hLp.append_right [x])
  · rw [← mid_done]
    exact mid_store (by simp; omega) (by omega) h

set_option maxHeartbeats 1000000 in
theorem ins_any (a : Addr) (S : List (List UInt8)) (cap : Nat) (w : World) (hS : StrsAt w (some a) S) (h2 : 2 ≤ S.length) (hl : S.length ≤ 65536) :
    Calls Tryf.prog 11 #[.slice (some a) S.length cap] w fun e w' => ∃ r, e = .returned (.slice (some ⟨r, 0, none⟩) S.length S.length) ∧ w'.rowIs r 9 S.length (cellS (srt S)) ∧ Below w.heap.size w w' := by
  go_enter Tryf.func11, Tryf.ntmps11
  go_wp2_with fail
  refine (cloneS_some a S cap w hS (by omega)).mono ?_
  rintro e w1 ⟨rfl, hr1, hb1⟩
  clear hS
  go_wp2
  go_loopw [4] (fun i wr => ∃ (k : Nat) (L : List (List UInt8)), 1 ≤ k ∧ k ≤ S.length ∧ i = .int .i64 k ∧ Hid (L.length = k) ∧ Hid (L.Pairwise (· ≤ ·)) ∧ L.Perm (S.take k) ∧ wr.rowIs w.heap.size 9 S.length (cellS (L ++ S.drop k)) ∧ Below w.heap.size w wr) (fun i _ => S.length - (intOf i).toNat)
  case atStart => exact ⟨1, S.take 1, Nat.le_refl _, by omega, rfl, (by show (S.take 1).length = 1; simp; omega), (by
    show (S.take 1).Pairwise (· ≤ ·)
    match S, h2 with
    | s :: _, _ => simp), .refl _, (by rw [List.take_append_drop]; exact hr1), hb1⟩
  case round =>
    obtain ⟨k, L, hk1, hk2, rfl, hLk, hLs, hLp, hrow, hb⟩ := hrel
    clear hr1 hb1
    by_cases hkl : k < S.length
    · -- the row is 'mid' at k
      have hdk : S.drop k = S[k] :: S.drop (k + 1) := List.drop_eq_getElem_cons hkl
      have hmid : wr.rowIs w.heap.size 9 S.length (cellS (mid L (S.drop (k + 1)) k S[k])) := by
        have e : L ++ S.drop k = mid L (S.drop (k + 1)) k S[k] := by
          unfold mid
          rw [hdk, List.take_of_length_le (l := L) (by have := hLk.out; omega), List.drop_of_length_le (l := L) (by have := hLk.out; omega)]
          rfl
        rw [← e]; exact hrow
      have hck : wr.cell? ⟨w.heap.size, k, none⟩ = some (sv S[k]) := by
        rw [hrow.cell hkl]
        unfold cellS
        rw [List.getD_eq_getElem?_getD, List.getElem?_append_right (by have := hLk.out; omega), hdk]
        have e : k - L.length = 0 := by have := hLk.out; omega
        rw [e]
        rfl
      clear hrow hdk
      obtain ⟨x, hx⟩ : ∃ x, x = S[k] := ⟨_, rfl⟩
      rw [← hx] at hmid hck
      have HX : Hid (x = S[k]) := hx
      clear hx
      go_wp2
      go_loopw [6] (fun jv wq => ∃ (j : Nat) (y : List UInt8), j ≤ k ∧ jv = .int .i64 j ∧ wq.rowIs w.heap.size 9 S.length (cellS (mid L (S.drop (k + 1)) j y)) ∧ (∀ z ∈ L.drop j, x ≤ z) ∧ Below w.heap.size w wq) (fun jv _ => (intOf jv).toNat)
      case atStart => exact ⟨k, x, Nat.le_refl _, rfl, hmid, (fun z hz => by rw [List.drop_of_length_le (by have := hLk.out; omega)] at hz; cases hz), hb⟩
      case round =>
        obtain ⟨j, y, hj, rfl, hrowq, hhi, hbq⟩ := hrel
        clear hmid hck hb
        have HHI : Hid (∀ z ∈ L.drop j, x ≤ z) := hhi
        have HLP : Hid (L.Perm (S.take k)) := hLp
        clear hhi hLp
        have hcj := hrowq.cell (i := j) (by omega)
        have hfj := hrowq.frozen j
        match j, hj, hrowq, HHI, hcj, hfj with
        | 0, hj, hrowq, HHI, hcj, hfj =>
          have F := ins_fin hkl hLk.out hLs.out HLP.out HX.out hj hrowq (fun z hz => by simp at hz) HHI.out
          have HF : Hid _ := F
          clear F
          go_wp2
          go_roundw
          case rel => exact ⟨k + 1, _, by omega, by omega, by go_num, HF.out.1, HF.out.2.1, HF.out.2.2.1, HF.out.2.2.2, hbq.setCell (Nat.le_refl _) _⟩
          case measure => simp [intOf]; omega
        | j + 1, hj, hrowq, HHI, hcj, hfj =>
          have hjL : j < L.length := by have := hLk.out; omega
          have hcl : wr.cell? ⟨w.heap.size, j, none⟩ = some (sv L[j]) := (hrowq.cell (i := j) (by omega)).trans (by rw [mid_before (by omega)])
          have hlt := bytesLess_is x L[j]
          by_cases hx : x < L[j]
          · have F := ins_shift (n := S.length) (by have := hLk.out; simp; omega) (by omega) hrowq
            have G : ∀ z ∈ L.drop j, x ≤ z := by
              intro z hz
              rw [List.drop_eq_getElem_cons hjL] at hz
              rcases List.mem_cons.1 hz with rfl | hz
              · exact List.le_of_lt hx
              · exact HHI.out z hz
            have HF : Hid _ := F
            have HG : Hid _ := G
            clear F G
            rw [decide_eq_true hx] at hlt
            clear hx
            generalize L[j] = l at hcl hlt HF
            go_wp2
            go_roundw
            case rel => exact ⟨j, _, by omega, by go_num, HF.out, HG.out, hbq.setCell (Nat.le_refl _) _⟩
            case measure => simp [intOf]
          · have F := ins_fin hkl hLk.out hLs.out HLP.out HX.out hj hrowq (take_low hLs.out hjL hx) HHI.out
            have HF : Hid _ := F
            clear F
            rw [decide_eq_false hx] at hlt
            clear hx
            generalize L[j] = l at hcl hlt
            go_wp2
            go_roundw
            case rel => exact ⟨k + 1, _, by omega, by omega, by go_num, HF.out.1, HF.out.2.1, HF.out.2.2.1, HF.out.2.2.2, hbq.setCell (Nat.le_refl _) _⟩
            case measure => simp [intOf]; omega
    · obtain rfl : k = S.length := by omega
      go_wp2
      go_ret
      rw [List.take_length] at hLp
      have eL : L = srt S := srt_of hLs.out hLp
      rw [List.drop_length, List.append_nil, eL] at hrow
      exact ⟨_, rfl, hrow, hb⟩
end Go.Proofs.Qxb6628937aFmt
