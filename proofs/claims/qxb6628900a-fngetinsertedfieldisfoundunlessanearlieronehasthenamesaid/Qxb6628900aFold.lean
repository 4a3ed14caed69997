/-
  The walk of equalFold.
-/
import Derived.Test.Qxb6628900aCase
import Derived.Deep.QuietTactic
import Derived.BigQuiet
namespace Go.Proofs.Qxb6628900a
open Go.RowKit Plain

theorem lowS_ext {a b : ByteArray} (hn : a.size = b.size) (h : ∀ j, j < a.size → low (a.data.toList.getD j 0) = low (b.data.toList.getD j 0)) : lowS a = lowS b := by
  have e : a.data.toList.map low = b.data.toList.map low := by
    apply List.ext_getElem (by simpa using hn)
    intro j h1 h2
    have h1' : j < a.data.toList.length := by simpa using h1
    have h2' : j < b.data.toList.length := by simpa using h2
    have := h j (by simpa using h1')
    rw [List.getD_eq_getElem?_getD, List.getD_eq_getElem?_getD, List.getElem?_eq_getElem h1', List.getElem?_eq_getElem h2'] at this
    simpa using this
  unfold lowS mapS
  rw [e]

theorem lowS_size {a b : ByteArray} (h : lowS a = lowS b) : a.size = b.size := by
  have := congrArg ByteArray.size h
  unfold lowS at this
  rwa [size_mapS, size_mapS] at this

theorem lowS_at {a b : ByteArray} (h : lowS a = lowS b) (j : Nat) : low (a.data.toList.getD j 0) = low (b.data.toList.getD j 0) := by
  have e : a.data.toList.map low = b.data.toList.map low := by
    have := congrArg (fun x : ByteArray => x.data.toList) h
    simpa [lowS, mapS] using this
  have g : ∀ l : List UInt8, low (l.getD j 0) = (l.map low).getD j (low 0) := fun l => by
    rw [List.getD_eq_getElem?_getD, List.getD_eq_getElem?_getD, List.getElem?_map]
    cases l[j]? <;> rfl
  rw [g, g, e]

theorem same_of {a b : ByteArray} (hn : a.size = b.size) (h : ∀ j, j < a.size → low (a.data.toList.getD j 0) = low (b.data.toList.getD j 0)) : same a b = true := decide_eq_true (lowS_ext hn h)
theorem same_not_size {a b : ByteArray} (hn : ¬ a.size = b.size) : same a b = false := decide_eq_false fun h => hn (lowS_size h)
theorem same_not_at {a b : ByteArray} (j : Nat) (hn : ¬ ((low (a.data.toList.getD j 0)).toNat : Int) = ((low (b.data.toList.getD j 0)).toNat : Int)) : same a b = false :=
  decide_eq_false fun h => hn (by rw [lowS_at h j])

/-- A byte's number, a capital turned small. -/
def L (x : Int) : Int := if 65 ≤ x ∧ x ≤ 90 then x + 32 else x
theorem L_hit {x : Int} (h : 65 ≤ x ∧ x ≤ 90) : L x = x + 32 := if_pos h
theorem L_miss {x : Int} (h : 90 < x ∨ x < 65) : L x = x := if_neg (by omega)
theorem eqA {x y : Int} (h : (x == y) = true) : L x = L y := by rw [show x = y by simpa using h]
theorem eqB {x y : Int} (hx : 65 ≤ x ∧ x ≤ 90) (hy : 90 < y ∨ y < 65) (h : (x + 32 != y) = false) : L x = L y := by
  rw [L_hit hx, L_miss hy]; simpa using h
theorem eqC {x y : Int} (hx : 90 < x ∨ x < 65) (hy : 65 ≤ y ∧ y ≤ 90) (h : (x != y + 32) = false) : L x = L y := by
  rw [L_miss hx, L_hit hy]; simpa using h
theorem neA {x y : Int} (hx : 65 ≤ x ∧ x ≤ 90) (hy : 65 ≤ y ∧ y ≤ 90) (h : (x + 32 != y + 32) = true) : ¬ L x = L y := by
  rw [L_hit hx, L_hit hy]; simpa using h
theorem neB {x y : Int} (hx : 65 ≤ x ∧ x ≤ 90) (hy : 90 < y ∨ y < 65) (h : (x + 32 != y) = true) : ¬ L x = L y := by
  rw [L_hit hx, L_miss hy]; simpa using h
theorem neC {x y : Int} (hx : 90 < x ∨ x < 65) (hy : 65 ≤ y ∧ y ≤ 90) (h : (x != y + 32) = true) : ¬ L x = L y := by
  rw [L_miss hx, L_hit hy]; simpa using h
theorem neD {x y : Int} (hx : 90 < x ∨ x < 65) (hy : 90 < y ∨ y < 65) (h : (x != y) = true) : ¬ L x = L y := by
  rw [L_miss hx, L_miss hy]; simpa using h

theorem all_step {a b : ByteArray} {k : Nat} (ha : k < a.size) (hb : k < b.size) (h : ∀ j, j < k → low (a.data.toList.getD j 0) = low (b.data.toList.getD j 0)) (e : L (a[k].toNat : Int) = L (b[k].toNat : Int)) :
    ∀ j, j < k + 1 → low (a.data.toList.getD j 0) = low (b.data.toList.getD j 0) := by
  intro j hj
  by_cases ek : j = k
  · subst ek
    apply UInt8.toNat_inj.1
    have h1 := low_int a j ha
    have h2 := low_int b j hb
    unfold L at e
    rw [← h1, ← h2] at e
    exact Int.ofNat_inj.1 e
  · exact h j (by omega)

theorem not_at {a b : ByteArray} {k : Nat} (ha : k < a.size) (hb : k < b.size) (e : ¬ L (a[k].toNat : Int) = L (b[k].toNat : Int)) : same a b = false := by
  apply same_not_at k
  rw [low_int a k ha, low_int b k hb]
  exact e

theorem ret_bool {a b : Bool} (h : a = b) : Ending.returned (.bool a) = .returned (.bool b) := by rw [h]

set_option maxHeartbeats 400000 in
theorem fold_any (a b : ByteArray) (ha : a.size ≤ 1048576) (w : World) :
    Calls Try.prog 12 #[.string a, .string b] w fun e w' => e = .returned (.bool (same a b)) ∧ ∃ n, w' = w.drewN n := by
  by_cases hn : a.size = b.size
  · have hz : ((a.size : Int) != (b.size : Int)) = false := by simp [hn]
    have HN : Hid (a.size = b.size) := hn
    clear hn
    go_enter Try.func12, Try.ntmps12
    go_wp2
    go_loopw [5] (fun i wr => ∃ k : Nat, k ≤ a.size ∧ i = .int .i64 k ∧ (∀ j, j < k → low (a.data.toList.getD j 0) = low (b.data.toList.getD j 0)) ∧ ∃ n, wr = w.drewN n) (fun i _ => a.size - (intOf i).toNat)
    case atStart => exact ⟨0, Nat.zero_le _, rfl, fun j hj => by omega, 0, rfl⟩
    case round =>
      obtain ⟨k, hk, rfl, hall, n, rfl⟩ := hrel
      by_cases hlt : k < a.size
      · have hlb : k < b.size := by have := HN.out; omega
        have hA : Hid (∀ j, j < k → low (a.data.toList.getD j 0) = low (b.data.toList.getD j 0)) := hall
        clear hall
        have h1 := (a[k]).toNat_lt
        have h2 := (b[k]).toNat_lt
        go_wp2
        go_quiet (fail)
        go_wp2
        all_goals
          first
          | (go_ret
             exact ⟨ret_bool (not_at hlt hlb (by first | exact neA (by omega) (by omega) ‹_› | exact neB (by omega) (by omega) ‹_› | exact neC (by omega) (by omega) ‹_› | exact neD (by omega) (by omega) ‹_›)).symm, _, rfl⟩)
          | (go_roundw
             case rel => exact ⟨k + 1, by omega, by go_num, all_step hlt hlb hA.out (by first | exact eqA ‹_› | exact eqB (by omega) (by omega) ‹_› | exact eqC (by omega) (by omega) ‹_›), n + nq, rfl⟩
             case measure => simp [intOf]; omega)
      · obtain rfl : k = a.size := by omega
        go_wp2
        go_ret
        exact ⟨ret_bool (same_of HN.out hall).symm, n, rfl⟩
  · have hz : ((a.size : Int) != (b.size : Int)) = true := by simp; omega
    have HN : Hid (¬ a.size = b.size) := hn
    clear hn
    go_enter Try.func12, Try.ntmps12
    go_wp2
    go_ret
    exact ⟨ret_bool (same_not_size HN.out).symm, 0, rfl⟩
end Go.Proofs.Qxb6628900a
