/-
  The walks of zzCmp, zzHasPrefix, zzInSpan, zzBoundLE and the guards.
-/
import Derived.Test.Qxb6628966aRows
import Derived.Test.Qxb6628966aPlain
import Derived.WalkKit
import Derived.WalkSpells
import Derived.WalkLawsBesides
import Derived.Deep.QuietTactic
import Derived.BigQuiet
namespace Go.Proofs.Qxb6628966a
open Go.RowKit Plain

/-- A string's bytes. -/
abbrev bs (s : ByteArray) : List UInt8 := s.data.toList
theorem drop_byte (s : ByteArray) (k : Nat) (h : k < s.size) : (bs s).drop k = s[k] :: (bs s).drop (k + 1) := by
  have h' : k < (bs s).length := by simpa using h
  rw [List.drop_eq_getElem_cons h']
  rfl
theorem drop_end (s : ByteArray) (k : Nat) (h : s.size ≤ k) : (bs s).drop k = [] := List.drop_eq_nil_of_le (by simpa using h)
theorem ret_int {k : IntKind} {a b : Int} (h : a = b) : Ending.returned (.int k a) = .returned (.int k b) := by rw [h]
theorem ret_bool {a b : Bool} (h : a = b) : Ending.returned (.bool a) = .returned (.bool b) := by rw [h]

theorem drawn_more (w : World) (n : Nat) : ∀ m, (w.drewN n).drewN m = w.drewN (n + m)
  | 0 => rfl
  | m + 1 => congrArg World.drew (drawn_more w n m)
theorem drawn_two (w : World) (n m : Nat) : ∃ k, (w.drewN n).drewN m = w.drewN k := ⟨_, drawn_more w n m⟩
theorem drawn_three (w : World) (n m l : Nat) : ∃ k, ((w.drewN n).drewN m).drewN l = w.drewN k := ⟨n + (m + l), by rw [drawn_more, drawn_more]⟩

set_option maxHeartbeats 1000000 in
theorem cmp_any (a b : ByteArray) (ha : a.size ≤ 65537) (hb : b.size ≤ 65537) (w : World) :
    Calls Try.prog 10 #[.string a, .string b] w fun e w' => e = .returned (.int .i64 (cmp (bs a) (bs b))) ∧ ∃ n, w' = w.drewN n := by
  by_cases hab : b.size < a.size
  · go_enter Try.func10, Try.ntmps10
    go_wp2
    go_loopw [6] (fun i wr => ∃ k : Nat, k ≤ b.size ∧ i = .int .i64 k ∧ Hid (cmp (bs a) (bs b) = cmp ((bs a).drop k) ((bs b).drop k)) ∧ ∃ n, wr = w.drewN n) (fun i _ => b.size - (intOf i).toNat)
    case atStart => exact ⟨0, Nat.zero_le _, rfl, rfl, 0, rfl⟩
    case round =>
      obtain ⟨k, hk1, rfl, hc, n, rfl⟩ := hrel
      by_cases hlt : k < b.size
      · have hka : k < a.size := by omega
        have hkb : k < b.size := by omega
        have hc2 : Hid (cmp (bs a) (bs b) = cmp (a[k] :: (bs a).drop (k + 1)) (b[k] :: (bs b).drop (k + 1))) := by rw [← drop_byte a k hka, ← drop_byte b k hkb]; exact hc
        have h1 := (a[k]).toNat_lt
        have h2 := (b[k]).toNat_lt
        clear hc
        rcases Nat.lt_trichotomy a[k].toNat b[k].toNat with h | h | h
        · have hi : (a[k].toNat : Int) < (b[k].toNat : Int) := by omega
          have HH : Hid (a[k].toNat < b[k].toNat) := h
          clear h
          go_wp2
          go_quiet (fail)
          go_wp2
          go_ret
          exact ⟨ret_int (by rw [hc2.out, cmp_lt HH.out]), drawn_two _ _ _⟩
        · have hi : (a[k].toNat : Int) ≤ (b[k].toNat : Int) := by omega
          have hj : (b[k].toNat : Int) ≤ (a[k].toNat : Int) := by omega
          have HH : Hid (a[k].toNat = b[k].toNat) := h
          clear h
          go_wp2
          go_quiet (fail)
          go_wp2
          go_quiet (fail)
          go_wp2
          go_roundw
          case rel => exact ⟨k + 1, by omega, by go_num, by show _ = _; rw [hc2.out, cmp_eq HH.out], _, rfl⟩
          case measure => simp [intOf]; omega
        · have hi : (b[k].toNat : Int) < (a[k].toNat : Int) := by omega
          have HH : Hid (b[k].toNat < a[k].toNat) := h
          clear h
          go_wp2
          go_quiet (fail)
          go_wp2
          go_quiet (fail)
          go_wp2
          go_ret
          exact ⟨ret_int (by rw [hc2.out, cmp_gt HH.out]), drawn_three _ _ _ _⟩
      · have e : cmp (bs a) (bs b) = 1 := by
          rw [hc.out, drop_end b k (by omega), drop_byte a k (by omega)]
          rfl
        have HE : Hid (cmp (bs a) (bs b) = 1) := e
        clear e hc
        go_wp2
        go_ret
        exact ⟨ret_int HE.out.symm, _, rfl⟩
  · go_enter Try.func10, Try.ntmps10
    go_wp2
    go_loopw [6] (fun i wr => ∃ k : Nat, k ≤ a.size ∧ i = .int .i64 k ∧ Hid (cmp (bs a) (bs b) = cmp ((bs a).drop k) ((bs b).drop k)) ∧ ∃ n, wr = w.drewN n) (fun i _ => a.size - (intOf i).toNat)
    case atStart => exact ⟨0, Nat.zero_le _, rfl, rfl, 0, rfl⟩
    case round =>
      obtain ⟨k, hk1, rfl, hc, n, rfl⟩ := hrel
      by_cases hlt : k < a.size
      · have hka : k < a.size := by omega
        have hkb : k < b.size := by omega
        have hc2 : Hid (cmp (bs a) (bs b) = cmp (a[k] :: (bs a).drop (k + 1)) (b[k] :: (bs b).drop (k + 1))) := by rw [← drop_byte a k hka, ← drop_byte b k hkb]; exact hc
        have h1 := (a[k]).toNat_lt
        have h2 := (b[k]).toNat_lt
        clear hc
        rcases Nat.lt_trichotomy a[k].toNat b[k].toNat with h | h | h
        · have hi : (a[k].toNat : Int) < (b[k].toNat : Int) := by omega
          have HH : Hid (a[k].toNat < b[k].toNat) := h
          clear h
          go_wp2
          go_quiet (fail)
          go_wp2
          go_ret
          exact ⟨ret_int (by rw [hc2.out, cmp_lt HH.out]), drawn_two _ _ _⟩
        · have hi : (a[k].toNat : Int) ≤ (b[k].toNat : Int) := by omega
          have hj : (b[k].toNat : Int) ≤ (a[k].toNat : Int) := by omega
          have HH : Hid (a[k].toNat = b[k].toNat) := h
          clear h
          go_wp2
          go_quiet (fail)
          go_wp2
          go_quiet (fail)
          go_wp2
          go_roundw
          case rel => exact ⟨k + 1, by omega, by go_num, by show _ = _; rw [hc2.out, cmp_eq HH.out], _, rfl⟩
          case measure => simp [intOf]; omega
        · have hi : (b[k].toNat : Int) < (a[k].toNat : Int) := by omega
          have HH : Hid (b[k].toNat < a[k].toNat) := h
          clear h
          go_wp2
          go_quiet (fail)
          go_wp2
          go_quiet (fail)
          go_wp2
          go_ret
          exact ⟨ret_int (by rw [hc2.out, cmp_gt HH.out]), drawn_three _ _ _ _⟩
      · by_cases hab2 : a.size < b.size
        · have e : cmp (bs a) (bs b) = -1 := by
            rw [hc.out, drop_end a k (by omega), drop_byte b k (by omega)]
            rfl
          have HE : Hid (cmp (bs a) (bs b) = -1) := e
          clear e hc
          go_wp2
          go_ret
          exact ⟨ret_int HE.out.symm, _, rfl⟩
        · have e : cmp (bs a) (bs b) = 0 := by
            rw [hc.out, drop_end a k (by omega), drop_end b k (by omega)]
            rfl
          have HE : Hid (cmp (bs a) (bs b) = 0) := e
          clear e hc
          go_wp2
          go_ret
          exact ⟨ret_int HE.out.symm, _, rfl⟩
end Go.Proofs.Qxb6628966a
