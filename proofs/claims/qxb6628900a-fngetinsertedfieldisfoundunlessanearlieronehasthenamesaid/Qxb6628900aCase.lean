/-
  The walks of lowerASCII and swapCase.
-/
import Derived.Test.Qxb6628900aRows
import Derived.Test.Qxb6628900aPlain
import Derived.WalkKit
import Derived.WalkSpells
import Derived.WalkLawsBesides
import Derived.Deep.OwnRows
namespace Go.Proofs.Qxb6628900a
open Go.RowKit Plain

theorem Try.info5 : (Try.prog.info? 5).map (fun i => (i.zero, i.size, i.bytes)) = some (some (.int .u8 0), 1, 1) := by kernel_rfl

/-- What stands in cell j of the new row when the first k bytes are laid. -/
def upto (f : UInt8 → UInt8) (s : ByteArray) (k : Nat) (j : Nat) : Value := if j < k then .int .u8 ((f (s.data.toList.getD j 0)).toNat : Int) else .int .u8 0

theorem upto_step (f : UInt8 → UInt8) (s : ByteArray) (k : Nat) (x : Int) (hx : x = ((f (s.data.toList.getD k 0)).toNat : Int)) (n : Nat) :
    ∀ j, j < n → (if j = k then Value.int .u8 x else upto f s k j) = upto f s (k + 1) j := by
  intro j _
  unfold upto
  by_cases e : j = k
  · subst e; rw [if_pos rfl, if_pos (by omega), hx]
  · rw [if_neg e]
    by_cases l : j < k
    · rw [if_pos l, if_pos (by omega)]
    · rw [if_neg l, if_neg (by omega)]

theorem getD_byte (s : ByteArray) (k : Nat) (h : k < s.size) : s.data.toList.getD k 0 = s[k] := by
  have h' : k < s.data.toList.length := by simpa using h
  rw [List.getD_eq_getElem?_getD, List.getElem?_eq_getElem h']
  rfl

/-- The row of bytes read back as a string. -/
theorem string_of_row (f : UInt8 → UInt8) (s : ByteArray) (b : Nat) (w : World) (h : w.rowIs b 5 s.size (upto f s s.size)) :
    (convert 34 9 (.slice (some ⟨b, 0, none⟩) s.size s.size)).run Try.prog w = .ok (.string (mapS f s)) w := by
  have hl : (s.data.toList.map f).length = s.size := by simp
  have := run_convert_bytes_back (P := Try.prog) w 34 9 5 ⟨b, 0, none⟩ s.size (s.data.toList.map f) Try.underlying34 Try.underlying5 Try.underlying9 (fun j hj => by
    rw [hl] at hj
    rw [Addr.add_lit, Nat.zero_add, h.cell hj]
    unfold upto
    rw [if_pos hj, List.getElem_map, List.getD_eq_getElem?_getD, List.getElem?_eq_getElem (by simpa using hj)]
    rfl)
  rw [hl] at this
  exact this

theorem low_int (s : ByteArray) (k : Nat) (h : k < s.size) : ((low (s.data.toList.getD k 0)).toNat : Int) = if 65 ≤ (s[k].toNat : Int) ∧ (s[k].toNat : Int) ≤ 90 then (s[k].toNat : Int) + 32 else (s[k].toNat : Int) := by
  rw [getD_byte s k h, low_toNat]
  by_cases e : 65 ≤ s[k].toNat ∧ s[k].toNat ≤ 90
  · rw [if_pos e, if_pos (by omega)]; rfl
  · rw [if_neg e, if_neg (by omega)]

theorem swp_int (s : ByteArray) (k : Nat) (h : k < s.size) : ((swp (s.data.toList.getD k 0)).toNat : Int) = if 65 ≤ (s[k].toNat : Int) ∧ (s[k].toNat : Int) ≤ 90 then (s[k].toNat : Int) + 32 else
    if 97 ≤ (s[k].toNat : Int) ∧ (s[k].toNat : Int) ≤ 122 then (s[k].toNat : Int) - 32 else (s[k].toNat : Int) := by
  rw [getD_byte s k h, swp_toNat]
  by_cases e : 65 ≤ s[k].toNat ∧ s[k].toNat ≤ 90
  · rw [if_pos e, if_pos (by omega)]; rfl
  · rw [if_neg e]
    by_cases e2 : 97 ≤ s[k].toNat ∧ s[k].toNat ≤ 122
    · rw [if_pos e2, if_neg (by omega), if_pos (by omega)]; omega
    · rw [if_neg e2, if_neg (by omega), if_neg (by omega)]

set_option maxHeartbeats 400000 in
theorem lower_any (s : ByteArray) (hs : s.size ≤ 1048576) (w : World) :
    Calls Try.prog 13 #[.string s] w fun e w' => e = .returned (.string (lowS s)) ∧ Below w.heap.size w w' := by
  have hmk := run_make_row' (P := Try.prog) 34 5 (.int .u8 0) 1 Try.underlying34 Try.info5 rfl .i64 .i64 s.size (by omega) (by omega)
  go_enter Try.func13, Try.ntmps13
  go_wp2
  go_loopw [4] (fun i wr => ∃ k : Nat, k ≤ s.size ∧ i = .int .i64 k ∧ wr.rowIs w.heap.size 5 s.size (upto low s k) ∧ Below w.heap.size w wr) (fun i _ => s.size - (intOf i).toNat)
  case atStart => exact ⟨0, Nat.zero_le _, rfl, (World.rowIs_made w (.int .u8 0) s.size 5).congr (fun j _ => by simp [upto]), (Below.refl _ _).alloc (Nat.le_refl _) _⟩
  case round =>
    obtain ⟨k, hk, rfl, hrow, hb⟩ := hrel
    by_cases hlt : k < s.size
    · have hc := hrow.cell hlt
      have hf := hrow.frozen k
      have hby := (s[k]).toNat_lt
      go_wp2
      all_goals
        go_roundw
        case rel => exact ⟨k + 1, by omega, by go_num, (hrow.set k _).congr (upto_step low s k _ (by rw [low_int s k hlt]; first | rw [if_pos (by omega)] | rw [if_neg (by omega)]) s.size), hb.setCell (Nat.le_refl _) _⟩
        case measure => simp [intOf]; omega
    · obtain rfl : k = s.size := by omega
      have hcv := string_of_row low s w.heap.size wr hrow
      go_wp2
      go_ret
      exact ⟨rfl, hb⟩

set_option maxHeartbeats 400000 in
theorem swap_any (s : ByteArray) (hs : s.size ≤ 1048576) (w : World) :
    Calls Try.prog 8 #[.string s] w fun e w' => e = .returned (.string (swpS s)) ∧ Below w.heap.size w w' := by
  have hmk := run_make_row' (P := Try.prog) 34 5 (.int .u8 0) 1 Try.underlying34 Try.info5 rfl .i64 .i64 s.size (by omega) (by omega)
  go_enter Try.func8, Try.ntmps8
  go_wp2
  go_loopw [4] (fun i wr => ∃ k : Nat, k ≤ s.size ∧ i = .int .i64 k ∧ wr.rowIs w.heap.size 5 s.size (upto swp s k) ∧ Below w.heap.size w wr) (fun i _ => s.size - (intOf i).toNat)
  case atStart => exact ⟨0, Nat.zero_le _, rfl, (World.rowIs_made w (.int .u8 0) s.size 5).congr (fun j _ => by simp [upto]), (Below.refl _ _).alloc (Nat.le_refl _) _⟩
  case round =>
    obtain ⟨k, hk, rfl, hrow, hb⟩ := hrel
    by_cases hlt : k < s.size
    · have hc := hrow.cell hlt
      have hf := hrow.frozen k
      have hby := (s[k]).toNat_lt
      go_wp2
      all_goals
        go_roundw
        case rel => exact ⟨k + 1, by omega, by go_num, (hrow.set k _).congr (upto_step swp s k _ (by rw [swp_int s k hlt]; first | rw [if_pos (by omega)] | rw [if_neg (by omega), if_pos (by omega)] | rw [if_neg (by omega), if_neg (by omega)]) s.size), hb.setCell (Nat.le_refl _) _⟩
        case measure => simp [intOf]; omega
    · obtain rfl : k = s.size := by omega
      have hcv := string_of_row swp s w.heap.size wr hrow
      go_wp2
      go_ret
      exact ⟨rfl, hb⟩
end Go.Proofs.Qxb6628900a
