/-
  The walk of ParseUint.
-/
import Derived.Test.Qxb6629990aPlain
import Derived.WalkKit
import Derived.WalkSpells
import Derived.WalkLawsBesides
namespace Go.Proofs.Qxb6629990a
open Go.RowKit Plain

def intOf : Value → Int | .int _ q => q | _ => 0

/-- The bytes 'l' lie in block 'b' from 'off' on. -/
def Cells (w : World) (b off : Nat) (l : List Nat) : Prop := ∀ k (h : k < l.length), w.cell? ⟨b, off + k, none⟩ = some (.int .u8 (l[k] : Int))
/-- They are bytes. -/
def Bytes (l : List Nat) : Prop := ∀ c ∈ l, c ≤ 255

/-- What both readers answer. -/
def Says (l : List Nat) (bits : Nat) (e : Ending) : Prop := ∃ v ok, e = .returned (.tuple #[.int .u64 ((v : Nat) : Int), .bool ok]) ∧ Reads l bits v ok

theorem says_no {l : List Nat} {bits : Nat} (h : ¬ Fits l bits) : Says l bits (.returned (.tuple #[.int .u64 0, .bool false])) := ⟨0, false, rfl, .inr ⟨h, rfl, rfl⟩⟩
theorem says_yes {l : List Nat} {bits : Nat} (h : Fits l bits) : Says l bits (.returned (.tuple #[.int .u64 ((val 0 l : Nat) : Int), .bool true])) := ⟨_, true, rfl, .inl ⟨h, rfl, rfl⟩⟩

theorem wrap_id (n : Int) (h0 : 0 ≤ n) (h : n < 18446744073709551616) : IntKind.u64.wrap n = n := by
  simp [IntKind.wrap, IntKind.bits, IntKind.signed]; omega

/-- The bound that the program reckons. -/
theorem most_wrap (bits : Nat) : IntKind.u64.wrap (IntKind.u64.wrap (2 ^ min bits 64) - 1) = ((most bits : Nat) : Int) := by
  by_cases h : 64 ≤ bits
  · rw [most_big bits h, show min bits 64 = 64 by omega]
    decide
  · have e : (2 : Int) ^ min bits 64 = ((2 ^ min bits 64 : Nat) : Int) := by simp
    have h1 : 2 ^ min bits 64 ≤ 2 ^ 63 := Nat.pow_le_pow_right (by omega) (by omega)
    have h2 : 0 < 2 ^ min bits 64 := Nat.two_pow_pos _
    unfold most
    rw [e]
    generalize 2 ^ min bits 64 = p at h1 h2 ⊢
    rw [wrap_id p (by omega) (by omega), wrap_id _ (by omega) (by omega)]
    omega

theorem digits_snoc {l : List Nat} {c : Nat} (h : Digits l) (hc : 48 ≤ c ∧ c ≤ 57) : Digits (l ++ [c]) := by
  intro d hd
  rcases List.mem_append.mp hd with h1 | h1
  · exact h d h1
  · rw [List.mem_singleton.mp h1]; exact hc

theorem fits_not_nil {bits : Nat} : ¬ Fits [] bits := fun h => h.1 rfl

set_option maxHeartbeats 1000000 in
theorem parse_any (b off cap : Nat) (l : List Nat) (bits : Nat) (w : World) (hl : l.length ≤ 1048576) (h4 : 4 ≤ bits) (hc : Cells w b off l) (hby : Bytes l) :
    Calls Try.prog 6 #[.slice (some ⟨b, off, none⟩) l.length cap, .int .i64 (bits : Int)] w fun e w' => w' = w ∧ Says l bits e := by
  by_cases h0 : l.length = 0
  · have HE : Hid (¬ Fits l bits) := fun h => h.1 (List.eq_nil_of_length_eq_zero h0)
    have e0 : ((l.length : Int) == 0) = true := by simp [h0]
    clear hc hby h0
    go_enter Try.func6, Try.ntmps6
    go_wp2
    go_ret2
    exact ⟨rfl, says_no HE.out⟩
  · have e0 : ((l.length : Int) == 0) = false := beq_eq_false_iff_ne.mpr (by omega)
    have M1 := most_ge bits h4
    have M2 := most_le bits
    have hMe := most_wrap bits
    obtain ⟨M, hM⟩ : ∃ M, M = most bits := ⟨_, rfl⟩
    rw [← hM] at M1 M2 hMe
    have HM : Hid (M = most bits) := hM
    have HC : Hid (Cells w b off l) := hc
    have HB : Hid (Bytes l) := hby
    clear hc hby hM
    go_enter Try.func6, Try.ntmps6
    go_wp2
    clear hMe
    go_loop [7, 19] (fun n i => ∃ (k N : Nat), k ≤ l.length ∧ i = .int .i64 k ∧ n = .int .u64 N ∧ N ≤ M ∧ Hid (Digits (l.take k) ∧ N = val 0 (l.take k))) (fun _ i => l.length - (intOf i).toNat)
    case atStart => exact ⟨0, 0, Nat.zero_le _, rfl, rfl, Nat.zero_le _, by intro c hc; simp at hc, by rw [List.take_zero, val_nil]⟩
    case round =>
      obtain ⟨k, N, hk, rfl, rfl, hN, HD⟩ := hrel
      by_cases hlt : k < l.length
      · have hcell := HC.out k hlt
        have hbk := HB.out _ (List.getElem_mem hlt)
        have HV : Hid (val 0 (l.take (k + 1)) = val 0 (l.take k) * 10 + (l[k] - 48)) := val_take_succ l k hlt
        have HT : Hid (l.take (k + 1) = l.take k ++ [l[k]]) := List.take_succ_eq_append_getElem hlt
        have HM2 : Hid (l[k] ∈ l) := List.getElem_mem hlt
        obtain ⟨c, hce⟩ : ∃ c, c = l[k] := ⟨_, rfl⟩
        rw [← hce] at hcell hbk HV HT HM2
        clear hce
        by_cases hd : 48 ≤ c ∧ c ≤ 57
        · by_cases hf : N ≤ (M - (c - 48)) / 10
          · have hnm : N * 10 + (c - 48) ≤ M := (step_fits (by omega)).mp hf
            go_wp2
            go_round
            case rel => exact ⟨k + 1, N * 10 + (c - 48), by omega, by go_num, by congr 1; omega, hnm, by rw [HT.out]; exact digits_snoc HD.out.1 hd, by rw [HV.out, HD.out.2]⟩
            case measure => simp [intOf]; omega
          · have HN : Hid (¬ Fits l bits) := fun h => by
              have h1 := h.2.2
              have h2 := val_take_le l (k + 1)
              rw [HV.out, ← HD.out.2] at h2
              rw [← HM.out] at h1
              exact hf ((step_fits (by omega)).mpr (by omega))
            go_wp2
            go_ret2
            exact ⟨rfl, says_no HN.out⟩
        · have hd2 : c < 48 ∨ 57 < c := by omega
          rcases hd2 with hd2 | hd2
          · go_wp2
            go_ret2
            exact ⟨rfl, says_no (fun h => hd (h.2.1 _ HM2.out))⟩
          · go_wp2
            go_ret2
            exact ⟨rfl, says_no (fun h => hd (h.2.1 _ HM2.out))⟩
      · have HF : Hid (Fits l bits ∧ N = val 0 l) := by
          have e : l.take k = l := List.take_of_length_le (by omega)
          obtain ⟨d1, d2⟩ := HD.out
          rw [e] at d1 d2
          exact ⟨⟨fun h => h0 (by rw [h]; rfl), d1, by rw [← d2, ← HM.out]; exact hN⟩, d2⟩
        go_wp2
        go_ret2
        exact ⟨rfl, by rw [HF.out.2]; exact says_yes HF.out.1⟩

/-- The empty slice that is nil. -/
theorem parse_nil (bits : Nat) (w : World) :
    Calls Try.prog 6 #[.slice none 0 0, .int .i64 (bits : Int)] w fun e w' => w' = w ∧ Says [] bits e := by
  go_enter Try.func6, Try.ntmps6
  go_wp2
  go_ret2
  exact ⟨rfl, says_no fits_not_nil⟩
end Go.Proofs.Qxb6629990a
